/-
  NARROWER THAN 'FOR EVERY INPUT', by the rows' own cells (each row's printed sentence says how): FnScriptWhole: ifaces, laid.
  DERIVED. THE GIVEN ROWS OF THIS SEAT. 1 by the template 'for every input the law returns true; each argument reads behind the call as it read before'; 0 by the template 'total and deterministic' (their statements: YtgoliddhhichgaaGreatDoorTotals.lean).
  GIVEN WITH THE SEED: the statements are not yours to turn. If you find one false, say at which input.
  Laid BY PROGRAM, IN A SANDBOX (cutbox-rows.mjs): the forced cells as the released guide's own fill.sh prints them over the translation b7223d3a25c6b534… (all of the seat's roots in one cut). By AI agents, Wed Nov 11 2026. No macro, syntax, notation, axiom, sorry.
-/
import Derived.Test.YtgoliddhhichgaaGreatDoorChecked
import GoSem.Claim
import GoSem.ClaimJoined
import GoSem.ClaimMapViews
import Derived.JoinedTies
import Derived.KernelRfl
namespace Go.Proofs.YtgoliddhhichgaaGreatDoor
/- THE CELL 'sum', in the pinned program and in every row, IS THE sha256 OF THE DUMP (.gsa) THAT YtgoliddhhichgaaGreatDoorProg.lean LOADS. Nothing in Lean hashes anything: it is a label: what it is worth is what the hold of that sum in a sandbox is worth. -/
noncomputable def Tryz.pinned : Pinned := { name := "ytgoliddhhichgaagreatdoor", sum := "b7223d3a25c6b534d767de1df2a29fa3d4ac62af4a21460ebb2b1254cf3ae7d1", checked := Tryz.checked }
namespace Rows
def none {H : Type} : Left H := { results := [], args := [] }

/- WHAT THE LISTED PACKAGE-LEVEL VARIABLES READ AS WHEN THE CALL BEGINS. Each datum BY PROGRAM (the guide's laid-datum.mjs) off the statement by which the dump's own 'gosem.cut.vars' lays the variable. In a bare row this is a premise. The card (YtgoliddhhichgaaGreatDoorCards.lean) ties it to the program's text. -/
def laid_loop_example_pub_sketchscripts_pub_hyperloglog_ErrorTooShort {H : Type} : DataW H := .iface "*errors.errorString" (.ptr (.agg [.lit (.string [116, 111, 111, 32, 115, 104, 111, 114, 116, 32, 98, 105, 110, 97, 114, 121])]))
def laid_loop_example_pub_sketchscripts_pub_hyperloglog_ErrorInvalidVersion {H : Type} : DataW H := .iface "*errors.errorString" (.ptr (.agg [.lit (.string [117, 110, 107, 110, 111, 119, 110, 32, 115, 101, 114, 105, 97, 108, 105, 122, 97, 116, 105, 111, 110, 32, 118, 101, 114, 115, 105, 111, 110])]))
def laid_loop_example_pub_sketchscripts_pub_hyperloglog_ErrorInvalidPrecision {H : Type} : DataW H := .iface "*errors.errorString" (.ptr (.agg [.lit (.string [112, 32, 104, 97, 115, 32, 116, 111, 32, 98, 101, 32, 62, 61, 32, 52, 32, 97, 110, 100, 32, 60, 61, 32, 49, 56])]))
def laid_loop_example_pub_sketchscripts_pub_hyperloglog_ErrorInvalidData {H : Type} : DataW H := .iface "*errors.errorString" (.ptr (.agg [.lit (.string [105, 110, 118, 97, 108, 105, 100, 32, 98, 105, 110, 97, 114, 121, 32, 100, 97, 116, 97])]))
def laid_loop_example_pub_sketchscripts_pub_hyperloglog_ErrorPrecisionMismatch {H : Type} : DataW H := .iface "*errors.errorString" (.ptr (.agg [.lit (.string [112, 114, 101, 99, 105, 115, 105, 111, 110, 115, 32, 109, 117, 115, 116, 32, 98, 101, 32, 101, 113, 117, 97, 108])]))

/-- 'laws.FnScriptWhole': WHATEVER THE INPUT: true; the input reads as it did. -/
def fnScriptWholeSpec : ChangeSpec := { name := "fnScriptWhole", vars := ["loop.example/pub-sketchscripts/pub/hyperloglog.ErrorInvalidPrecision", "loop.example/pub-sketchscripts/pub/hyperloglog.ErrorPrecisionMismatch", "loop.example/pub-sketchscripts/pub/hyperloglog.ErrorTooShort", "loop.example/pub-sketchscripts/pub/hyperloglog.ErrorInvalidVersion", "loop.example/pub-sketchscripts/pub/hyperloglog.ErrorInvalidData"], fn := fun _ => fun
  | [d1, d2, d3, d4, d5, g1, g2, g3, g4, g5] => { results := [.lit (.bool true)], args := [d1, d2, d3, d4, d5], vars := [g1, g2, g3, g4, g5] }
  | _ => none }
def fnScriptWholeRow : OpenClaim := { program := "ytgoliddhhichgaagreatdoor", sum := "b7223d3a25c6b534d767de1df2a29fa3d4ac62af4a21460ebb2b1254cf3ae7d1", func := "loop.example/pub-sketchscripts/laws.FnScriptWhole", spec := "fnScriptWhole", unfollowed := true, recurses := true, named := ["loop.example/pub-sketchscripts/pub/hyperloglog.ErrorInvalidPrecision", "loop.example/pub-sketchscripts/pub/hyperloglog.ErrorPrecisionMismatch", "loop.example/pub-sketchscripts/pub/hyperloglog.ErrorTooShort", "loop.example/pub-sketchscripts/pub/hyperloglog.ErrorInvalidVersion", "loop.example/pub-sketchscripts/pub/hyperloglog.ErrorInvalidData"], ifaces := true, apart := false, laid := [("loop.example/pub-sketchscripts/pub/hyperloglog.ErrorTooShort", laid_loop_example_pub_sketchscripts_pub_hyperloglog_ErrorTooShort), ("loop.example/pub-sketchscripts/pub/hyperloglog.ErrorInvalidVersion", laid_loop_example_pub_sketchscripts_pub_hyperloglog_ErrorInvalidVersion), ("loop.example/pub-sketchscripts/pub/hyperloglog.ErrorInvalidPrecision", laid_loop_example_pub_sketchscripts_pub_hyperloglog_ErrorInvalidPrecision), ("loop.example/pub-sketchscripts/pub/hyperloglog.ErrorInvalidData", laid_loop_example_pub_sketchscripts_pub_hyperloglog_ErrorInvalidData), ("loop.example/pub-sketchscripts/pub/hyperloglog.ErrorPrecisionMismatch", laid_loop_example_pub_sketchscripts_pub_hyperloglog_ErrorPrecisionMismatch)] }
def FnScriptWholeSaid : Prop := fnScriptWholeRow.holds Tryz.pinned (OpenSpec.ofChange fnScriptWholeSpec)

/-- ITS FALSE NEIGHBOUR: 'it returns false'. Refute it at one input. -/
def fnScriptWholeWrong : ChangeSpec := { name := "fnScriptWhole", vars := ["loop.example/pub-sketchscripts/pub/hyperloglog.ErrorInvalidPrecision", "loop.example/pub-sketchscripts/pub/hyperloglog.ErrorPrecisionMismatch", "loop.example/pub-sketchscripts/pub/hyperloglog.ErrorTooShort", "loop.example/pub-sketchscripts/pub/hyperloglog.ErrorInvalidVersion", "loop.example/pub-sketchscripts/pub/hyperloglog.ErrorInvalidData"], fn := fun _ => fun
  | [d1, d2, d3, d4, d5, g1, g2, g3, g4, g5] => { results := [.lit (.bool false)], args := [d1, d2, d3, d4, d5], vars := [g1, g2, g3, g4, g5] }
  | _ => none }
def FnScriptWholeWrongFalsely : Prop := fnScriptWholeRow.holds Tryz.pinned (OpenSpec.ofChange fnScriptWholeWrong)

/- THE SECOND FORM. 'bulk': how many values and letters a reading holds, each counted each time it is reached (what is shared counts as often as it is met; a slice's spare places count too). A statement '..UptoSaid' is the law's where the arguments, and the package variables that the reading takes, are together of bulk at most 1048576: NARROWER than '..Said'. Prove '..Said' where nothing that the law and all that it calls make is longer than what came in: it says more and counts as full. Else prove '..UptoSaid'. A law counts once. -/
mutual
def uptoBulk {H : Type} : DataW H → Nat
  | .lit (.string bytes) => bytes.length + 1
  | .lit _ => 1
  | .nil => 1
  | .ptr d => uptoBulk d + 1
  | .slice elems spare => uptoBulkAll elems + uptoBulkAll spare + 1
  | .agg parts => uptoBulkAll parts + 1
  | .iface _ d => uptoBulk d + 1
  | .map entries => uptoBulkEntries entries + 1
  | .held _ => 1
def uptoBulkAll {H : Type} : List (DataW H) → Nat
  | [] => 0
  | d :: r => uptoBulk d + uptoBulkAll r
def uptoBulkEntries {H : Type} : List (Lit × DataW H) → Nat
  | [] => 0
  | x :: r => uptoBulkEntry x + uptoBulkEntries r
def uptoBulkEntry {H : Type} : Lit × DataW H → Nat
  | (.string bytes, d) => bytes.length + uptoBulk d + 1
  | (_, d) => uptoBulk d + 1
 end
def uptoSmall : (H : Type) → List (DataW H) → Bool := fun _ ds => decide (uptoBulkAll ds ≤ 1048576)
def OpenSpec.upto (s : _root_.Go.ChangeSpec) : _root_.Go.OpenSpec := { _root_.Go.OpenSpec.ofChange s with cond := some uptoSmall }

/-- 'laws.FnScriptWhole', WHERE WHAT IT READS IS OF BULK AT MOST 1048576: true; the input reads as it did. -/
def fnScriptWholeUptoRow : OpenClaim := { program := "ytgoliddhhichgaagreatdoor", sum := "b7223d3a25c6b534d767de1df2a29fa3d4ac62af4a21460ebb2b1254cf3ae7d1", func := "loop.example/pub-sketchscripts/laws.FnScriptWhole", spec := "fnScriptWhole", unfollowed := true, recurses := true, named := ["loop.example/pub-sketchscripts/pub/hyperloglog.ErrorInvalidPrecision", "loop.example/pub-sketchscripts/pub/hyperloglog.ErrorPrecisionMismatch", "loop.example/pub-sketchscripts/pub/hyperloglog.ErrorTooShort", "loop.example/pub-sketchscripts/pub/hyperloglog.ErrorInvalidVersion", "loop.example/pub-sketchscripts/pub/hyperloglog.ErrorInvalidData"], ifaces := true, apart := false, laid := [("loop.example/pub-sketchscripts/pub/hyperloglog.ErrorTooShort", laid_loop_example_pub_sketchscripts_pub_hyperloglog_ErrorTooShort), ("loop.example/pub-sketchscripts/pub/hyperloglog.ErrorInvalidVersion", laid_loop_example_pub_sketchscripts_pub_hyperloglog_ErrorInvalidVersion), ("loop.example/pub-sketchscripts/pub/hyperloglog.ErrorInvalidPrecision", laid_loop_example_pub_sketchscripts_pub_hyperloglog_ErrorInvalidPrecision), ("loop.example/pub-sketchscripts/pub/hyperloglog.ErrorInvalidData", laid_loop_example_pub_sketchscripts_pub_hyperloglog_ErrorInvalidData), ("loop.example/pub-sketchscripts/pub/hyperloglog.ErrorPrecisionMismatch", laid_loop_example_pub_sketchscripts_pub_hyperloglog_ErrorPrecisionMismatch)], narrowed := true }
def FnScriptWholeUptoSaid : Prop := fnScriptWholeUptoRow.holds Tryz.pinned (OpenSpec.upto fnScriptWholeSpec)

end Rows
end Go.Proofs.YtgoliddhhichgaaGreatDoor
