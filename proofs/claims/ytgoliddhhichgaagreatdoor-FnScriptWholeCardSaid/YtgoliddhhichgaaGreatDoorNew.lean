/- The walks of NewSketch. -/
import Derived.Test.YtgoliddhhichgaaGreatDoorClo
import Derived.Laws.ComplexArith
namespace Go.Proofs.YtgoliddhhichgaaGreatDoor
open Go.RowKit Pl

/-- alpha's arithmetic is of numbers alone. -/
def chk (x : Nat) : Bool :=
  match FloatKind.f64.format.div 4607538203170579677 x with
  | some d => match FloatKind.f64.format.add 4607182418800017408 d with
    | some e => (FloatKind.f64.format.div 4604672112367721094 e).isSome
    | none => false
  | none => false
theorem chk_parts {x : Nat} (h : chk x = true) : ∃ d e f, FloatKind.f64.format.div 4607538203170579677 x = some d ∧ FloatKind.f64.format.add 4607182418800017408 d = some e ∧ FloatKind.f64.format.div 4604672112367721094 e = some f := by
  unfold chk at h
  split at h
  · rename_i d hd
    split at h
    · rename_i e he
      cases hf : FloatKind.f64.format.div 4604672112367721094 e with
      | none => rw [hf] at h; cases h
      | some f => exact ⟨d, e, f, hd, he, hf⟩
    · cases h
  · cases h
theorem run_quo (w : World) {x y r : Nat} (h : FloatKind.f64.format.div x y = some r) : (binOp .quo 53 (.float .f64 x) (.float .f64 y)).run Tryz.prog w = .ok (.float .f64 r) w := by
  show (Op.floatArith .quo .f64 x y).run Tryz.prog w = _
  exact run_floatArith w h
theorem run_addf (w : World) {x y r : Nat} (h : FloatKind.f64.format.add x y = some r) : (binOp .add 53 (.float .f64 x) (.float .f64 y)).run Tryz.prog w = .ok (.float .f64 r) w := by
  show (Op.floatArith .add .f64 x y).run Tryz.prog w = _
  exact run_floatArith w h

def SomeF (w : World) (e : Ending) (w' : World) : Prop := ∃ y, e = .returned (.float .f64 y) ∧ w = w'
set_option maxHeartbeats 400000 in
set_option maxRecDepth 100000 in
/-- alpha. -/
theorem alpha_any (x : Nat) (w : World) (h : chk x = true) : Calls Tryz.prog 23 #[.float .f64 x] w (SomeF w) := by
  obtain ⟨d, e, f, h1, h2, h3⟩ := chk_parts h
  have r1 := run_quo w h1
  have r2 := run_addf w h2
  have r3 := run_quo w h3
  clear h h1 h2 h3
  go_enter Tryz.func23, Tryz.ntmps23
  go_wp2
  all_goals
    go_ret
    exact ⟨_, rfl, rfl⟩

/-- The empty sketch's form. -/
def NewRep (p : Nat) (s : Bool) : Rep := if s then .sparse [] [] else .dense (List.replicate (2 ^ p) 0)
theorem NewRep.says (p : Nat) (s : Bool) : Says p (fun _ => False) (NewRep p s) := by
  cases s with
  | true => exact ⟨by simp, by simp, by simp [bytesOf, bytesFrom], fun k => by simp⟩
  | false => exact IsReg.zero p
def NewSkE (w : World) (p : Nat) (s : Bool) (e : Ending) (w' : World) : Prop :=
  ∃ b F, e = .returned (.tuple #[.pointer (some ⟨b, 0, none⟩), .nilIface]) ∧ SkAt w' b F p (NewRep p s) ∧ Chg [] w w' ∧ Grew w [] F

set_option maxHeartbeats 4000000 in
set_option maxRecDepth 100000 in
theorem newSketch_raw (w : World) (p : Nat) (s : Bool) (h4 : 4 ≤ p) (h10 : p ≤ 10) : Calls Tryz.prog 11 #[.int .u8 (p : Int), .bool s] w (NewSkE w p s) := by
  have hcp := checkPrecision_any (p : Int) w (by omega) (by omega)
  have HCP := Lib.hid hcp
  obtain ⟨M, hM⟩ : ∃ M, M = 2 ^ p := ⟨_, rfl⟩
  have hM1 : M ≤ 1024 := by rw [hM]; exact Nat.pow_le_pow_right (n := 2) (by omega) h10
  have HM := Lib.hid hM
  clear hcp hM
  go_enter Tryz.func11, Tryz.ntmps11
  go_wp2_with fail
  refine HCP.out.mono ?_
  rintro e w' ⟨rfl, rfl⟩
  go_wp2_with fail
  have e1 : (2 : Int) ^ p % 4294967296 = (M : Int) := by
    have : (2 : Int) ^ p = ((2 ^ p : Nat) : Int) := by simp
    rw [this, ← HM.out]
    omega
  simp only [e1]
  have hchk : chk (floatOfInt .f64 (M : Int)) = true := by
    have := HM.out
    rcases (by omega : p = 4 ∨ p = 5 ∨ p = 6 ∨ p = 7 ∨ p = 8 ∨ p = 9 ∨ p = 10) with h | h | h | h | h | h | h <;> (subst h; rw [this]; decide +kernel)
  refine (alpha_any _ w hchk).mono ?_
  rintro e w' ⟨y, rfl, rfl⟩
  clear hchk e1
  cases s with
  | true =>
    go_wp2_with fail
    refine (makeSet_any _ _).mono ?_
    rintro e w2 ⟨bt, Ft, rfl, hs2, hc2, hg2⟩
    have hn1 : Blk (w.alloc (.cells #[.int .u8 (p : Int), .int .u32 (M : Int), .float .f64 y, .pointer none, .pointer none, .slice none 0 0] 59)) w.heap.size 59 #[.int .u8 (p : Int), .int .u32 (M : Int), .float .f64 y, .pointer none, .pointer none, .slice none 0 0] := Blk.new _ _ _
    have hn2 := hn1.chg hc2 (by simp)
    have x3 := hn2.cell 3
    have f3 := hn2.frozen 3
    have hn3 := hn2.set_ 3 (.pointer (some ⟨bt, 0, none⟩))
    simp at x3
    obtain ⟨w3, hw3⟩ : ∃ w3, w3 = w2.setCell ⟨w.heap.size, 3, none⟩ (.pointer (some ⟨bt, 0, none⟩)) := ⟨_, rfl⟩
    have Y := Lib.hid (And.intro hs2 (And.intro hc2 (And.intro hg2 (And.intro hn3 hw3))))
    have HW3 : Hid (w2.setCell ⟨w.heap.size, 3, none⟩ (.pointer (some ⟨bt, 0, none⟩)) = w3) := hw3.symm
    clear hs2 hc2 hg2 hn1 hn2 hn3 hw3
    go_wp2_with fail
    rw [HW3.out]
    have hL := newList_any w3 0 (by omega)
    refine (show Calls Tryz.prog 25 #[.int .i64 0] w3 _ from hL).mono ?_
    rintro e w4 ⟨bl, Fl, rfl, hl4, hc4, hg4⟩
    have hF : Blk w4 w.heap.size 59 #[.int .u8 (p : Int), .int .u32 (M : Int), .float .f64 y, .pointer (some ⟨bt, 0, none⟩), .pointer none, .slice none 0 0] ∧ Chg [] w w4 ∧ SetAt w4 bt Ft [] ∧ (∀ k, k ∈ Ft → w.heap.size < k) ∧ (∀ k, k ∈ Fl → w.heap.size < k ∧ k ∉ Ft) := by
      obtain ⟨hs2, hc2, hg2, hn3, hw3⟩ := Y.out
      have hFt : ∀ k, k ∈ Ft → w.heap.size < k := fun k hk => by
        rcases hg2 k hk with h | h
        · simp at h
        · simp at h; omega
      have hn3' : Blk w3 w.heap.size 59 #[.int .u8 (p : Int), .int .u32 (M : Int), .float .f64 y, .pointer (some ⟨bt, 0, none⟩), .pointer none, .slice none 0 0] := by rw [hw3]; simpa using hn3
      have hc3 : Chg [] w w3 := by rw [hw3]; exact (((Chg.refl [] w).alloc _).trans hc2 (by simp)).setCell (.inr (Nat.le_refl _)) _
      have hs3 : SetAt w3 bt Ft [] := by rw [hw3]; exact hs2.agree (fun k hk => Below.heap_setCell _ _ _ _ (by have := hFt k hk; show k ≠ w.heap.size; omega))
      have hl := hn3'.lt
      refine ⟨hn3'.chg hc4 (by simp), hc3.trans hc4 (by simp), hs3.chg hc4 (by simp), hFt, fun k hk => ?_⟩
      rcases hg4 k hk with h | h
      · simp at h
      · exact ⟨by omega, fun h2 => by have := hs3.lt k h2; omega⟩
    have x4 := hF.1.cell 4
    have f4 := hF.1.frozen 4
    simp at x4
    have Z := Lib.hid (And.intro hF hl4)
    clear hF hl4 hc4 hg4 x3 f3
    go_wp2_with fail
    go_ret2
    obtain ⟨⟨hn4, hc4, hs4, hFt, hFl⟩, hl4⟩ := Z.out
    have hn5 := hn4.set_ 4 (.pointer (some ⟨bl, 0, none⟩))
    refine ⟨w.heap.size, w.heap.size :: (Ft ++ Fl), rfl, SkAt.mk (al := y) (by rw [← HM.out]; simpa using hn5) (hs4.agree fun k hk => Below.heap_setCell _ _ _ _ (by have := hFt k hk; show k ≠ w.heap.size; omega)) (hl4.agree fun k hk => Below.heap_setCell _ _ _ _ (by have := (hFl k hk).1; show k ≠ w.heap.size; omega)) (fun h => by have := hFt _ h; omega) (fun h => by have := (hFl _ h).1; omega) (fun k hk hkl => (hFl k hkl).2 hk), hc4.setCell (.inr (Nat.le_refl _)) _, fun k hk => ?_⟩
    rcases List.mem_cons.1 hk with rfl | hk
    · exact .inr (Nat.le_refl _)
    · rcases List.mem_append.1 hk with hk | hk
      · have := hFt k hk; exact .inr (by omega)
      · have := (hFl k hk).1; exact .inr (by omega)
  | false =>
    go_wp2_with (at_make; go_must (refine wpMakeN A22 rfl _ rfl _ _ rfl .u32 .u32 M rfl rfl (by omega) (by omega) ?_); intro w2 hr2 hg2; have hn2 : Blk w2 w.heap.size 59 #[.int .u8 (p : Int), .int .u32 (M : Int), .float .f64 y, .pointer none, .pointer none, .slice none 0 0] := (Blk.new _ _ _).grown hg2 (by simp); have hc2 : Chg [] w w2 := ((Chg.refl _ _).alloc _).grown hg2 (by simp); have x5 := hn2.cell 5; have f5 := hn2.frozen 5; simp at x5; have Y := Lib.hid (And.intro hr2 (And.intro hn2 hc2)); clear hr2 hg2 hn2 hc2)
    go_ret2
    obtain ⟨hr2, hn2, hc2⟩ := Y.out
    have hr2' : Blk w2 (w.heap.size + 1) 5 (List.replicate M (Value.int .u8 0)).toArray := by simpa using hr2
    have hn3 := hn2.set_ 5 (.slice (some ⟨w.heap.size + 1, 0, none⟩) M M)
    have hr3 := hr2'.far (p := ⟨w.heap.size, 5, none⟩) (by simp) (.slice (some ⟨w.heap.size + 1, 0, none⟩) M M)
    refine ⟨w.heap.size, [w.heap.size, w.heap.size + 1], rfl, ⟨y, .slice (some ⟨w.heap.size + 1, 0, none⟩) M M, by rw [← HM.out]; simpa using hn3, ?_, by simp, fun r hr => by simp at hr; omega, by simp [Value.ownBlock], by simp⟩, hc2.setCell (.inr (Nat.le_refl _)) _, fun k hk => .inr (by simp at hk; omega)⟩
    have h2 := Blk.own (n := M) hr3 (by simp) (by unfold maxLen; omega)
    unfold Own
    rw [← HM.out]
    simpa [vU8] using h2

/-- NewSketch. -/
theorem newSketch_any (w : World) (p : Nat) (s : Bool) (h4 : 4 ≤ p) (h10 : p ≤ 10) : Calls Tryz.prog 11 #[.int .u8 (p : Int), .bool s] w fun e w' => ∃ b F, e = .returned (.tuple #[.pointer (some ⟨b, 0, none⟩), .nilIface]) ∧ Sk w' b F p (fun _ => False) ∧ Chg [] w w' ∧ Grew w [] F :=
  (newSketch_raw w p s h4 h10).mono fun _ _ ⟨b, F, he, hs, hc, hg⟩ => ⟨b, F, he, ⟨_, hs, NewRep.says p s⟩, hc, hg⟩
def NewSkR (w : World) (p : Nat) (s : Bool) (e : Ending) (w' : World) : Prop :=
  ∃ b F, e = .returned (.pointer (some ⟨b, 0, none⟩)) ∧ SkAt w' b F p (NewRep p s) ∧ Chg [] w w' ∧ Grew w [] F
set_option maxHeartbeats 400000 in
set_option maxRecDepth 100000 in
/-- newSketchNoError. -/
theorem newNoErr_any (w : World) (p : Nat) (s : Bool) (h4 : 4 ≤ p) (h10 : p ≤ 10) : Calls Tryz.prog 39 #[.int .u8 (p : Int), .bool s] w (NewSkR w p s) := by
  have H := Lib.hid (newSketch_raw w p s h4 h10)
  go_enter Tryz.func39, Tryz.ntmps39
  go_wp2_with fail
  refine H.out.mono ?_
  rintro e w2 ⟨b, F, rfl, h1, h2, h3⟩
  have Z := Lib.hid (And.intro h1 (And.intro h2 h3))
  clear h1 h2 h3
  go_wp2_with fail
  go_ret
  exact ⟨b, F, rfl, Z.out⟩
end Go.Proofs.YtgoliddhhichgaaGreatDoor
