/-
  WHAT IS PROVED: for every input of laws.FnScriptWhole the call returns true and its arguments and the listed variables read afterwards as they read before (the statement FnScriptWholeCardSaid).
  CONDITIONS: none of mine; those that the given row and card bear (the listed error variables lie as the program's text lays them).
-/
import Derived.Test.YtgoliddhhichgaaGreatDoorCards
import Derived.Test.YtgoliddhhichgaaGreatDoorTie
import Derived.Test.YtgoliddhhichgaaGreatDoorWhA
import Derived.WalkKit
import Derived.ProofKit
import Derived.OpenShut
import Derived.OpenVars
import Derived.Lay
import Derived.Deep.DeepHandedRow
import Derived.SevenTiedAt
import Derived.JoinedCond
namespace Go.Proofs.YtgoliddhhichgaaGreatDoor
open Go.ChangeShapes Go.WideShapes Go.ChangeAt Go.RowKit

theorem ownK : ownKnob Tryz.prog.godebug = none := by kernel_rfl
theorem vars_five {H : Type} {enc : TypeId × Value → H} {P : Program} {w : World} {sp : Nat → Bool} {a b c d e : String} {gs : List (DataW H)} {q : List MemPlace} (h : DataW.TrodVars enc P w sp [a, b, c, d, e] gs q) : ∃ g1 g2 g3 g4 g5, gs = [g1, g2, g3, g4, g5] := by
  match gs, h with
  | [g1, g2, g3, g4, g5], _ => exact ⟨g1, g2, g3, g4, g5, rfl⟩
  | [], h => exact h.elim
  | [_], h => obtain ⟨_, _, _, _, _, _, _, _, _, _, h, _⟩ := h; exact h.elim
  | [_, _], h => obtain ⟨_, _, _, _, _, _, _, _, _, _, ⟨_, _, _, _, _, _, _, _, _, _, h, _⟩, _⟩ := h; exact h.elim
  | [_, _, _], h => obtain ⟨_, _, _, _, _, _, _, _, _, _, ⟨_, _, _, _, _, _, _, _, _, _, ⟨_, _, _, _, _, _, _, _, _, _, h, _⟩, _⟩, _⟩ := h; exact h.elim
  | [_, _, _, _], h => obtain ⟨_, _, _, _, _, _, _, _, _, _, ⟨_, _, _, _, _, _, _, _, _, _, ⟨_, _, _, _, _, _, _, _, _, _, ⟨_, _, _, _, _, _, _, _, _, _, h, _⟩, _⟩, _⟩, _⟩ := h; exact h.elim
  | _ :: _ :: _ :: _ :: _ :: _ :: _, h => obtain ⟨_, _, _, _, _, _, _, _, _, _, ⟨_, _, _, _, _, _, _, _, _, _, ⟨_, _, _, _, _, _, _, _, _, _, ⟨_, _, _, _, _, _, _, _, _, _, ⟨_, _, _, _, _, _, _, _, _, _, h, _⟩, _⟩, _⟩, _⟩, _⟩ := h; exact h.elim
theorem laidOutT : laidOutB Tryz.prog = true := by kernel_rfl

set_option maxRecDepth 100000 in
theorem contract (H : Type) (enc : TypeId × Value → H) (W : World) (base : Nat) (args : Array Value) (ds gs : List (DataW H)) (before : List MemPlace)
    (hval : ∀ (j : Nat) t v, Tryz.f3.params[j]? = some t → args[j]? = some v → Value.okWide Tryz.prog W .any base t v)
    (hW : DataW.Whole enc Tryz.prog Tryz.f3.params.toList Rows.fnScriptWholeSpec.vars false W args.toList ds gs before) :
    Calls Tryz.prog 3 args W fun e W' => ∃ v, e = .returned v ∧ Rows.fnScriptWholeSpec.post enc Tryz.prog Tryz.f3 false true false false W args v W' := by
  have hW' := hW
  obtain ⟨p, q, hA0, hV, rfl, _, _⟩ := hW
  have hA : DataW.TrodAll enc Tryz.prog W 0 (fun _ => true) true Tryz.f3.params.toList args.toList ds p := hA0
  rw [Tryz.params3] at hA hval
  obtain ⟨v0, vs0, d0, ds0, p0, q0, hargs, rfl, rfl, h0, r0⟩ := trodAll_cons hA
  obtain ⟨v1, vs1, d1, ds1, p1, q1, rfl, rfl, rfl, h1, r1⟩ := trodAll_cons r0
  obtain ⟨v2, vs2, d2, ds2, p2, q2, rfl, rfl, rfl, h2, r2⟩ := trodAll_cons r1
  obtain ⟨v3, vs3, d3, ds3, p3, q3, rfl, rfl, rfl, h3, r3⟩ := trodAll_cons r2
  obtain ⟨v4, vs4, d4, ds4, p4, q4, rfl, rfl, rfl, h4, r4⟩ := trodAll_cons r3
  obtain ⟨rfl, rfl, rfl⟩ := trodAll_nil r4
  obtain rfl : args = #[v0, v1, v2, v3, v4] := by cases args; simp_all
  obtain ⟨g1, g2, g3, g4, g5, rfl⟩ := vars_five hV
  have hlt : ∀ x ∈ p4, x.block < W.heap.size := fun x hx => hW'.lt x (by simp [hx])
  obtain ⟨n, rfl, rfl, rfl, wn⟩ := open_int Tryz.underlying5 (hval 0 5 v0 rfl rfl) h0
  obtain ⟨s0, rfl, rfl, rfl⟩ := open_bool Tryz.underlying4 (hval 1 4 v1 rfl rfl) h1
  obtain ⟨s1, rfl, rfl, rfl⟩ := open_bool Tryz.underlying4 (hval 2 4 v2 rfl rfl) h2
  obtain ⟨s2, rfl, rfl, rfl⟩ := open_bool Tryz.underlying4 (hval 3 4 v3 rfl rfl) h3
  obtain ⟨A, len, cap, rfl⟩ := okWide_slice Tryz.underlying22 (hval 4 22 v4 rfl rfl)
  have hn : 0 ≤ n ∧ n ≤ 255 := by simpa [Lit.wf, IntKind.min, IntKind.max, IntKind.signed, IntKind.bits] using wn
  obtain ⟨m, rfl⟩ := Int.eq_ofNat_of_zero_le hn.1
  have hc5 : Tryz.prog.cellsOf 5 = 1 := by kernel_rfl
  have hd : DataIn W A len cap := by
    obtain ⟨fuel, hf⟩ := h4
    rcases open_ints Tryz.underlying22 Tryz.underlying5 hc5 hf with ⟨h5, _⟩ | ⟨a, l, c, zs, h5, _, hlc, _, hzs, _, hcell, hwf⟩
    · have h6 : [Value.slice A len cap] = [Value.slice none 0 0] := h5
      simp only [List.cons.injEq, Value.slice.injEq, and_true] at h6
      exact .inl h6
    · replace h5 : [Value.slice A len cap] = [Value.slice (some a) l c] := h5
      simp only [List.cons.injEq, Value.slice.injEq, and_true] at h5
      obtain ⟨rfl, rfl, rfl⟩ := h5
      refine .inr ⟨a, rfl, fun i hi => ?_⟩
      have hz : zs.length = cap := by simpa using hzs
      have hi' : i < zs.length := by omega
      have h6 := hwf (zs.getD i 0) (by rw [List.getD, List.getElem?_eq_getElem hi']; exact List.getElem_mem _)
      have h7 : 0 ≤ zs.getD i 0 ∧ zs.getD i 0 ≤ 255 := by simpa [Lit.wf, IntKind.min, IntKind.max, IntKind.signed, IntKind.bits] using h6
      obtain ⟨r, hr⟩ := Int.eq_ofNat_of_zero_le h7.1
      exact ⟨r, by omega, by rw [hcell i hi', hr]⟩
  refine (whole_any W A len cap m s0 s1 s2 (by omega) hd).mono fun e W' ⟨he, hc⟩ => ?_
  subst he
  have hb : Below W.heap.size W W' := hc.below (Nat.le_refl _) (fun k hk => by cases hk)
  refine ⟨_, rfl, _, _, _, [], [] ++ ([] ++ ([] ++ ([] ++ (p4 ++ [])))), q, hW', trodAll_mk1 (shut_bool Tryz.underlying4 _), ?_, hb.trodVars laidOutT (by kernel_rfl) hV, hb.frame _, fun h => by cases h⟩
  exact trodAll_cons_mk (shut_int Tryz.underlying5 wn) (trodAll_cons_mk (shut_bool Tryz.underlying4 _) (trodAll_cons_mk (shut_bool Tryz.underlying4 _) (trodAll_cons_mk (shut_bool Tryz.underlying4 _) (trodAll_cons_mk (hb.trod laidOutT (by kernel_rfl) (of_decide_eq_true (by kernel_rfl)) h4 hlt) trodAll_mk0))))

/-- A world for the witness: the listed variables as their initialisers lay them. -/
noncomputable def laidW (os : Os) : World := World.laidAll Tryz.prog os Rows.fnScriptWholeRow.laid
abbrev noArgs : Array Value := #[.int .u8 0, .bool false, .bool false, .bool false, .slice none 0 0]
theorem laid_met (os : Os) : laidMet Tryz.prog Rows.fnScriptWholeRow.laid ((laidW os).forCall (fun _ _ => 0) ⟨#[], noArgs, []⟩).memory := laidMet_laidAll _ (by kernel_rfl) (by kernel_rfl)

set_option maxRecDepth 100000 in
theorem lifted (os : Os) (started : os.Started) (H : Type) (enc : TypeId × Value → H) (F : Stop.Interp) :
    ReturnsInHanded {} Tryz.checked os 3 .any ((OpenSpec.ofChange Rows.fnScriptWholeSpec).preRow enc Tryz.prog Tryz.f3 Rows.fnScriptWholeRow.domain false Rows.fnScriptWholeRow.laid) (((OpenSpec.ofChange Rows.fnScriptWholeSpec).at F).post enc Tryz.prog Tryz.f3 false true false false) := by
  refine returnsInHanded_of_row (C := Tryz.checked) (s := OpenSpec.ofChange Rows.fnScriptWholeSpec) ownK started (by kernel_rfl) Tryz.func3
    (witness_row_at (enc := enc) (C := Tryz.checked) false (laidW os) noArgs (World.laidAll_os _ _ _) (by kernel_rfl) (by kernel_rfl) (by kernel_rfl)
      (OpenSpec.preRow_of_B rfl 12 (by kernel_rfl) (by kernel_rfl) (by rw [MakeChecks.laidMetH_plain _ _ _ (by kernel_rfl)]; exact laid_met os))) ?_
  intro W base args ds gs before hval hW _ _ _ _ _ _
  exact contract H enc W base args ds gs before hval hW

theorem said : Rows.FnScriptWholeSaid :=
  OpenClaim.holds_of_cond 3 Tryz.f3 rfl rfl rfl rfl rfl rfl rfl ⟨rfl, rfl, rfl, rfl, rfl⟩ rfl rfl rfl rfl rfl (by kernel_rfl) Tryz.func3 (by kernel_rfl)
    (of_decide_eq_true (by kernel_rfl)) (by unfold Func.isWrapper; first | (rw [if_pos (by decide +kernel)]; kernel_rfl) | (rw [if_neg (by decide +kernel)]; exact ⟨rfl, rfl⟩))
    (fun os started H enc _ F => by rw [OpenClaim.pre_eq_preRow]; exact lifted os started H enc F)

theorem plainLaw (f : FuncId) (fn : Func) (hf : Tryz.pinned.checked.prog.funcNamed "loop.example/pub-sketchscripts/laws.FnScriptWhole" = some f) (hfn : Tryz.pinned.checked.prog.funcs[f]? = some fn) :
    false = Tryz.pinned.checked.prog.looks [] ∧ ∀ (j : Nat) t, fn.params[j]? = some t → Tryz.pinned.checked.prog.wantsStandIn t = false := by
  obtain rfl : f = 3 := Option.some.inj ((show Tryz.prog.funcNamed "loop.example/pub-sketchscripts/laws.FnScriptWhole" = some 3 by kernel_rfl).symm.trans hf) |>.symm
  obtain rfl : fn = Tryz.f3 := (Option.some.inj (Tryz.func3.symm.trans hfn)).symm
  refine ⟨by kernel_rfl, fun j t ht => ?_⟩
  rw [Tryz.params3] at ht
  have h : t = 5 ∨ t = 4 ∨ t = 22 := by
    have := Array.mem_of_getElem? ht
    simp at this
    rcases this with h | h | h
    · exact .inl h
    · exact .inr (.inl h)
    · exact .inr (.inr h)
  rcases h with rfl | rfl | rfl
  · exact (show Tryz.prog.wantsStandIn 5 = false by kernel_rfl)
  · exact (show Tryz.prog.wantsStandIn 4 = false by kernel_rfl)
  · exact (show Tryz.prog.wantsStandIn 22 = false by kernel_rfl)

/-- THE CARD. -/
theorem card_holds : Rows.FnScriptWholeCardSaid :=
  Claim7.holds_tied_plain_at .later [] _ _ _ _ said (fun _ h => by cases h) (by kernel_rfl) (fun _ h => by cases h) fnScriptWhole_row_tie rfl ⟨rfl, rfl⟩ (by kernel_rfl) rfl plainLaw (by kernel_rfl)
#print axioms card_holds
end Go.Proofs.YtgoliddhhichgaaGreatDoor
