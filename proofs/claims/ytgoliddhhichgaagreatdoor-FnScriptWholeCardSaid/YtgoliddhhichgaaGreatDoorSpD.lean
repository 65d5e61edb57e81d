/- The walk of spec.Regs. -/
import Derived.Test.YtgoliddhhichgaaGreatDoorSpC
import Derived.Test.YtgoliddhhichgaaGreatDoorReg
import Derived.Test.YtgoliddhhichgaaGreatDoorSkAA
import Derived.Deep.RegionLaw
namespace Go.Proofs.YtgoliddhhichgaaGreatDoor
open Go.RowKit Pl

/-- What Regs hands back. -/
def RsOut (w : World) (p : Nat) (L : List Nat) (e : Ending) (w' : World) : Prop :=
  ∃ (g c : Nat) (R : List Nat), e = .returned (.slice (some ⟨g, 0, none⟩) (2 ^ p) c) ∧ w'.ownsRow 0 5 1 (.slice (some ⟨g, 0, none⟩) (2 ^ p) c) (2 ^ p) (R.map vU8) ∧ R.length = 2 ^ p ∧ IsReg p (fun x => x ∈ L) R ∧ Chg [] w w'

/-- The state of Regs' loop. -/
def RSt (w wr : World) (p gr M : Nat) (R pre : List Nat) : Prop :=
  wr.ownsRow 0 5 1 (.slice (some ⟨gr, 0, none⟩) M M) M (R.map vU8) ∧ R.length = M ∧ (∀ r, r ∈ R → r < 256) ∧ IsReg p (fun x => x ∈ pre) R ∧ Chg [] w wr ∧ w.heap.size ≤ gr

theorem rst_next {w wr : World} {p gr M k v r x i : Nat} {R L : List Nat} {hkR : k < R.length} (hK : k = pos p x ∧ v = val p x ∧ r = R[k]'hkR) (hT : L.take (i + 1) = L.take i ++ [x]) (hI : RSt w wr p gr M R (L.take i)) (hv : max r v < 256) (hM : M = 2 ^ p) (hx : x < 18446744073709551616) (h10 : p ≤ 10) :
    Hid (RSt w (wr.setCell ⟨gr, k, none⟩ (.int .u8 (max (r : Int) (v : Int)))).drew p gr M (upd R k v) (L.take (i + 1))) := by
  obtain ⟨h1, h2, h3, h4, h5, h6⟩ := hI
  obtain ⟨hk, hvx, hr⟩ := hK
  have hu : upd R k v = R.set k (max v r) := by
    unfold upd
    rw [List.getElem?_eq_getElem hkR, ← hr]
    rfl
  refine Lib.hid ⟨?_, by rw [upd_len]; exact h2, ?_, ?_, (h5.setCell (.inr h6) _).drew, h6⟩
  · have h := own_set (i := k) h1 (vU8 (max v r))
    rw [hu, List.map_set]
    have e : (max (r : Int) (v : Int)) = ((max v r : Nat) : Int) := by omega
    rw [e]
    exact h
  · intro y hy
    rw [hu] at hy
    rcases List.mem_or_eq_of_mem_set hy with hy | rfl
    · exact h3 y hy
    · omega
  · rw [hT, hk, hvx]
    exact (h4.add (by rw [h2, hM]) x (pos_lt p x h10 hx)).congr (fun y => by simp)

set_option maxHeartbeats 4000000 in
set_option maxRecDepth 100000 in
/-- spec.Regs. -/
theorem regsS_any (w : World) (A : Option Addr) (n c p : Nat) (L : List Nat) (h4 : 4 ≤ p) (h10 : p ≤ 10) (h : w.ownsRow 0 38 1 (.slice A n c) n (L.map vU64)) (hn : n = L.length) (hn1 : n ≤ 1000000) (hL : ∀ x, x ∈ L → x < 18446744073709551616) :
    Calls Tryz.prog 8 #[.int .u8 (p : Int), .slice A n c] w (RsOut w p L) := by
  obtain ⟨M, hM⟩ : ∃ M, M = 2 ^ p := ⟨_, rfl⟩
  have hM1 : M ≤ 1024 := by rw [hM]; exact Nat.pow_le_pow_right (n := 2) (by omega) h10
  have hM0 : 0 < M := by rw [hM]; exact Nat.two_pow_pos p
  have e1 : ((2 : Int) ^ p) = (M : Int) := by rw [hM]; simp
  have e2 : IntKind.i64.wrap ((M : Int)) = (M : Int) := IntWalk.i64_in _ (by omega)
  have e3 : wrap64 ((M : Int)) = (M : Int) := IntWalk.wrap64_in _ (by omega)
  have HM := Lib.hid hM
  have KL : Hid (∀ W, Chg [] w W → ∀ (i x : Nat), L[i]? = some x → ∃ g, A = some ⟨g, 0, none⟩ ∧ W.cell? ⟨g, i, none⟩ = some (.int .u64 (x : Int))) := Lib.hid fun W hc i x hx => by
    have h1 := own_agree h (fun k hk => hc.same (own_lt h hk) (by simp))
    rcases own_form h with ⟨h0, h00, _⟩ | ⟨g, cap, h0, _⟩
    · have := (List.getElem?_eq_some_iff.1 hx).1
      omega
    · simp only [Value.slice.injEq] at h0
      obtain ⟨rfl, _, rfl⟩ := h0
      exact ⟨g, rfl, (own_cell (i := i) (u := vU64 x) h1 (by rw [List.getElem?_map, hx]; rfl)).1⟩
  have X := Lib.hid (And.intro hn hL)
  clear h hn hL hM
  go_enter Tryz.func8, Tryz.ntmps8
  go_wp2_with (at_make; go_must (refine wpMakeN A22 rfl _ rfl _ _ rfl .i64 .i64 M rfl rfl (by omega) (by omega) ?_); intro w1 hr1 hg1)
  have A0 : Hid (RSt w w1 p w.heap.size M (List.replicate M 0) []) := Lib.hid ⟨by
    rw [List.map_replicate]
    exact hr1.own (by simp) (by unfold maxLen; omega), by simp, (fun r hr => by rw [List.eq_of_mem_replicate hr]; omega), by rw [HM.out]; exact (IsReg.zero p).congr (fun x => by simp), Chg.of_grown hg1 (by simp), Nat.le_refl _⟩
  clear hr1 hg1
  generalize w.heap.size = gr at A0 ⊢
  go_loopw [14] (fun s14 wr => ∃ (i : Nat) (R : List Nat), s14 = .int .i64 (i : Int) ∧ i ≤ n ∧ Hid (RSt w wr p gr M R (L.take i))) (fun s14 _ => n - (intOf s14).toNat)
  case atStart => exact ⟨0, _, rfl, by omega, A0⟩
  case round =>
    obtain ⟨i, R, rfl, hi, hI⟩ := hrel
    by_cases hlt : i < n
    · have hiL : i < L.length := by rw [← X.out.1]; exact hlt
      obtain ⟨x, hx⟩ : ∃ x, L[i]? = some x := ⟨_, List.getElem?_eq_getElem hiL⟩
      have hx64 : x < 18446744073709551616 := X.out.2 x (List.mem_of_getElem? hx)
      obtain ⟨g, rfl, cx⟩ := KL.out wr hI.out.2.2.2.2.1 i x hx
      have HT := Lib.hid (And.intro (take_succ hx) hx)
      obtain ⟨k, hk⟩ : ∃ k, k = pos p x := ⟨_, rfl⟩
      obtain ⟨v, hv⟩ : ∃ v, v = val p x := ⟨_, rfl⟩
      have hkM : k < M := by rw [hk, HM.out]; exact pos_lt p x h10 hx64
      have hv256 : v < 256 := by rw [hv]; have := val_le p x; omega
      have HP : Hid (∀ W, Calls Tryz.prog 19 #[.int .u64 (x : Int), .int .u8 (p : Int)] W fun e w' => e = .returned (.int .i64 (k : Int)) ∧ W = w') := by rw [hk]; exact Lib.hid fun W => pos_any W x p hx64 h4 h10
      have HV : Hid (∀ W, Calls Tryz.prog 20 #[.int .u64 (x : Int), .int .u8 (p : Int)] W fun e w' => e = .returned (.int .u8 (v : Int)) ∧ W = w') := by rw [hv]; exact Lib.hid fun W => val_any W x p hx64 h4 h10
      have hkR : k < R.length := by rw [hI.out.2.1]; exact hkM
      obtain ⟨r, hr⟩ : ∃ r, r = R[k]'hkR := ⟨_, rfl⟩
      have hr256 : r < 256 := by rw [hr]; exact hI.out.2.2.1 _ (List.getElem_mem _)
      obtain ⟨ck, fk⟩ := own_cell (i := k) (u := vU8 r) hI.out.1 (by rw [List.getElem?_map, List.getElem?_eq_getElem hkR, ← hr]; rfl)
      unfold vU8 at ck
      have HK := Lib.hid (And.intro hk (And.intro hv hr))
      clear hx hk hv hr hiL
      go_wp2_with (go_at_call 19; go_must (refine (HP.out _).mono ?_); rintro e w' ⟨rfl, rfl⟩)
      go_region_law ((go_simp; go_at_call 20; go_must (refine (HV.out _).mono ?_); rintro e w' ⟨rfl, rfl⟩))
      all_goals go_wp2_with fail
      all_goals go_roundw
      case rel =>
        exact ⟨i + 1, upd R k v, by go_num, by omega, rst_next HK.out HT.out.1 hI.out (by omega) (by rw [HM.out]) hx64 h10⟩
      case measure => simp [intOf]; omega
      case rel =>
        exact ⟨i + 1, upd R k v, by go_num, by omega, rst_next HK.out HT.out.1 hI.out (by omega) (by rw [HM.out]) hx64 h10⟩
      case measure => simp [intOf]; omega
    · go_wp2_with fail
      go_ret
      obtain ⟨h1, h2, h3, h4, h5, h6⟩ := hI.out
      have hiL : i = L.length := by rw [← X.out.1]; omega
      rw [hiL, List.take_length] at h4
      have e := HM.out
      subst e
      exact ⟨gr, _, R, rfl, h1, h2, h4, h5⟩
end Go.Proofs.YtgoliddhhichgaaGreatDoor
