/-
  DERIVED. GIVEN WITH THE SEED: THE CARDS: each row of YtgoliddhhichgaaGreatDoorRows.lean that lists a variable, with what it lists TIED to the program's text (the seventh form; the later family's looks); each row that meets fmt, with fmt's text TOLD by the authors' own Lean function (tested against real Go, not proved from fmt's source: count such statements apart). THE CARD IS WHAT COUNTS. Prove the row's statement (the work); the ties are given (YtgoliddhhichgaaGreatDoorTie.lean); close each card by the builder's one call (the guide's Derived/Test/ToyasCard.lean, 'card_holds'). Laid BY PROGRAM, IN A SANDBOX (cutbox-door.mjs). By AI agents, Wed Nov 11 2026. No macro, syntax, notation, axiom, sorry.
-/
import Derived.Test.YtgoliddhhichgaaGreatDoorRows
import GoSem.ClaimSeven
namespace Go.Proofs.YtgoliddhhichgaaGreatDoor
namespace Rows

/-- THE TIED CARD OF 'laws.FnScriptWhole'. -/
def fnScriptWholeCard : Claim7 := { stood := { row := fnScriptWholeRow, standIns := [], harness := (true, "a7403b7bb8b30c6b3fc0d222dd5000a775966572bcf6e2d090e78bf2a7ea6a3b"), looks := false }, kinds := [], alts := [], laidByText := true, laidKinds := [.sentinel, .sentinel, .sentinel, .sentinel, .sentinel], laidTests := true, laidLooks := .later }
def FnScriptWholeCardSaid : Prop := Claim7.holds Tryz.pinned (.plain (OpenSpec.ofChange fnScriptWholeSpec)) fnScriptWholeCard

/-- THE SECOND FORM's CARD OF 'laws.FnScriptWhole'. -/
def fnScriptWholeUptoCard : Claim7 := { stood := { row := fnScriptWholeUptoRow, standIns := [], harness := (true, "a7403b7bb8b30c6b3fc0d222dd5000a775966572bcf6e2d090e78bf2a7ea6a3b"), looks := false }, kinds := [], alts := [], laidByText := true, laidKinds := [.sentinel, .sentinel, .sentinel, .sentinel, .sentinel], laidTests := true, laidLooks := .later }
def FnScriptWholeUptoCardSaid : Prop := Claim7.holds Tryz.pinned (.plain (OpenSpec.upto fnScriptWholeSpec)) fnScriptWholeUptoCard
end Rows
end Go.Proofs.YtgoliddhhichgaaGreatDoor
