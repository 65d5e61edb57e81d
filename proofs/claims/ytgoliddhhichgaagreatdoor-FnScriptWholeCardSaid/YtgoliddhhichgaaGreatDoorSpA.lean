/- The walks of spec.hash, spec.Pos, spec.Val and spec.Same. -/
import Derived.Test.YtgoliddhhichgaaGreatDoorLaws
import Derived.Deep.QuietTactic
import Derived.BigQuiet
import Derived.Laws.BitsAllLaws
import Derived.IntWalk
namespace Go.Proofs.YtgoliddhhichgaaGreatDoor
open Go.RowKit Pl

/-- A number of 64 bits, the world as it was. -/
def SomeU (w : World) (e : Ending) (w' : World) : Prop := ∃ x : Nat, e = .returned (.int .u64 (x : Int)) ∧ x < 18446744073709551616 ∧ w = w'

theorem bit_and (x k : Nat) (hx : x < 18446744073709551616) : bits BinOp.and IntKind.u64 ((x : Int) / 2 ^ k) 1 = ((x / 2 ^ k % 2 : Nat) : Int) := by
  have e : ((x : Int) / 2 ^ k) = ((x / 2 ^ k : Nat) : Int) := by simp
  have hle : x / 2 ^ k ≤ x := Nat.div_le_self _ _
  rw [e, show (1 : Int) = ((1 : Nat) : Int) from rfl, u64_and_nat _ _ (by omega) (by omega), Nat.and_one_is_mod]
theorem pos_step (x k : Nat) (hk : k < 64) : x / 2 ^ (64 - (k + 1)) = 2 * (x / 2 ^ (64 - k)) + x / 2 ^ (63 - k) % 2 := by
  rw [show 64 - (k + 1) = 63 - k by omega, show 64 - k = 63 - k + 1 by omega, Nat.pow_succ, ← Nat.div_div_eq_div_mul]
  omega
theorem pos_small (x k : Nat) (hx : x < 18446744073709551616) (hk : k ≤ 10) : x / 2 ^ (64 - k) < 1024 := by
  have h1 : 2 ^ 54 ≤ 2 ^ (64 - k) := Nat.pow_le_pow_right (by omega) (by omega)
  have h2 : x / 2 ^ (64 - k) ≤ x / 2 ^ 54 := Nat.div_le_div_left h1 (by decide)
  omega

theorem val_bit (x p k : Nat) (hk : p ≤ k) (h64 : k < 64) (hy : x % 2 ^ (64 - p) < 2 ^ (64 - k)) : x % 2 ^ (64 - p) / 2 ^ (63 - k) = x / 2 ^ (63 - k) % 2 := by
  have h1 : x % 2 ^ (64 - p) / 2 ^ (63 - k) < 2 := by
    rw [Nat.div_lt_iff_lt_mul (Nat.two_pow_pos _), ← Nat.pow_succ', show (63 - k).succ = 64 - k by omega]
    exact hy
  have h2 : x % 2 ^ (64 - p) / 2 ^ (63 - k) = x / 2 ^ (63 - k) % 2 ^ (k - p + 1) := by
    rw [show 64 - p = 63 - k + (k - p + 1) by omega, Nat.pow_add, Nat.mod_mul_right_div_self]
  have h3 : x / 2 ^ (63 - k) % 2 ^ (k - p + 1) % 2 = x / 2 ^ (63 - k) % 2 := Nat.mod_mod_of_dvd _ ⟨2 ^ (k - p), by rw [Nat.pow_succ, Nat.mul_comm]⟩
  omega
theorem val_next (x p k : Nat) (hk : p ≤ k) (h64 : k < 64) (hy : x % 2 ^ (64 - p) < 2 ^ (64 - k)) (h0 : x / 2 ^ (63 - k) % 2 = 0) : x % 2 ^ (64 - p) < 2 ^ (64 - (k + 1)) := by
  have h := val_bit x p k hk h64 hy
  rw [h0, Nat.div_eq_zero_iff] at h
  rcases h with h | h
  · have := Nat.two_pow_pos (63 - k); omega
  · rwa [show 64 - (k + 1) = 63 - k by omega]
theorem val_stop (x p k : Nat) (hk : p ≤ k) (h64 : k < 64) (hy : x % 2 ^ (64 - p) < 2 ^ (64 - k)) (h0 : x / 2 ^ (63 - k) % 2 ≠ 0) : k - p + 1 = val p x := by
  have h := val_bit x p k hk h64 hy
  rw [show x / 2 ^ (63 - k) % 2 = 1 by omega] at h
  have hd := Nat.div_add_mod (x % 2 ^ (64 - p)) (2 ^ (63 - k))
  rw [h, Nat.mul_one] at hd
  have hm : x % 2 ^ (64 - p) % 2 ^ (63 - k) < 2 ^ (63 - k) := Nat.mod_lt _ (Nat.two_pow_pos _)
  have h2 : (2 : Nat) ^ (64 - k) ≤ 2 ^ 64 := Nat.pow_le_pow_right (by omega) (by omega)
  have hb := bl_add (63 - k) 1 _ (by omega) hm (by omega)
  rw [Nat.one_mul, hd, show Lib.bitLen 1 = 1 by decide] at hb
  unfold val
  omega
theorem val_end (x p : Nat) (hp : p ≤ 10) (hy : x % 2 ^ (64 - p) < 2 ^ (64 - 64)) : 64 - p + 1 = val p x := by
  unfold val
  rw [show x % 2 ^ (64 - p) = 0 by simpa using hy, bl_zero]
  omega

set_option maxHeartbeats 400000 in
/-- spec.hash. -/
theorem hash_any (w : World) (n : Nat) (hn : n < 1000000) : Calls Tryz.prog 10 #[.int .i64 (n : Int)] w (SomeU w) := by
  go_enter Tryz.func10, Tryz.ntmps10
  go_wp2
  go_ret
  show SomeU w (.returned (.int .u64 (IntKind.u64.wrap _))) w
  generalize hz : IntKind.u64.wrap _ = z
  have hz0 : 0 ≤ z ∧ z < 18446744073709551616 := by rw [← hz, IntKind.wrap_u64]; omega
  exact ⟨z.toNat, by rw [Int.toNat_of_nonneg hz0.1], by omega, rfl⟩

set_option maxHeartbeats 400000 in
/-- spec.Pos. -/
theorem pos_any (w : World) (x p : Nat) (hx : x < 18446744073709551616) (h4 : 4 ≤ p) (h10 : p ≤ 10) : Calls Tryz.prog 19 #[.int .u64 (x : Int), .int .u8 (p : Int)] w fun e w' => e = .returned (.int .i64 ((pos p x : Nat) : Int)) ∧ w = w' := by
  go_enter Tryz.func19, Tryz.ntmps19
  go_wp2_with fail
  go_loop [5, 6] (fun s5 s6 => ∃ k m : Nat, k ≤ p ∧ m = x / 2 ^ (64 - k) ∧ s5 = .int .i64 (m : Int) ∧ s6 = .int .i64 (k : Int)) (fun _ s6 => p - (intOf s6).toNat)
  case atStart =>
    exact ⟨0, 0, Nat.zero_le _, by rw [Nat.sub_zero, Nat.div_eq_of_lt hx], rfl, rfl⟩
  case round =>
    obtain ⟨k, m, hk, hm, rfl, rfl⟩ := hrel
    have hm1 : m < 1024 := by rw [hm]; exact pos_small x k hx (by omega)
    have HM := Lib.hid hm
    clear hm
    go_wp2_with fail
    · have hs := pos_step x k (by omega)
      refine ⟨⟨k + 1, x / 2 ^ (64 - (k + 1)), by omega, rfl, ?_, rfl⟩, by simp [intOf]; omega⟩
      rw [bit_and x _ hx, hs, ← HM.out]
      have hb : x / 2 ^ (63 - k) % 2 < 2 := Nat.mod_lt _ (by omega)
      generalize x / 2 ^ (63 - k) % 2 = b at hb
      congr 1
      rw [IntWalk.wrap64_in (b : Int) (by omega), IntWalk.wrap64_in _ (by omega)]
      omega
    · go_ret
      have : k = p := by omega
      subst this
      exact ⟨by rw [HM.out]; rfl, rfl⟩

set_option maxHeartbeats 400000 in
/-- spec.Val. -/
theorem val_any (w : World) (x p : Nat) (hx : x < 18446744073709551616) (h4 : 4 ≤ p) (h10 : p ≤ 10) : Calls Tryz.prog 20 #[.int .u64 (x : Int), .int .u8 (p : Int)] w fun e w' => e = .returned (.int .u8 ((val p x : Nat) : Int)) ∧ w = w' := by
  go_enter Tryz.func20, Tryz.ntmps20
  go_wp2_with fail
  go_loop [5, 6] (fun s5 s6 => ∃ k m : Nat, p ≤ k ∧ k ≤ 64 ∧ m ≤ 61 ∧ Hid (m = k - p + 1) ∧ Hid (x % 2 ^ (64 - p) < 2 ^ (64 - k)) ∧ s5 = .int .u8 (m : Int) ∧ s6 = .int .i64 (k : Int)) (fun _ s6 => 64 - (intOf s6).toNat)
  case atStart =>
    exact ⟨p, 1, Nat.le_refl _, by omega, by omega, Lib.hid (by omega), Lib.hid (Nat.mod_lt _ (Nat.two_pow_pos _)), rfl, rfl⟩
  case round =>
    obtain ⟨k, m, hk, hk64, hm6, HM, hlo, rfl, rfl⟩ := hrel
    have hb := bit_and x (63 - k) hx
    obtain ⟨b, hbd⟩ : ∃ b, b = x / 2 ^ (63 - k) % 2 := ⟨_, rfl⟩
    rw [← hbd] at hb
    have HB := Lib.hid hbd
    clear hbd
    go_wp2_with fail
    · have hb0 : b = 0 := by simp_all
      refine ⟨⟨k + 1, m + 1, by omega, by omega, ?_, Lib.hid ?_, Lib.hid ?_, rfl, rfl⟩, by simp [intOf]; omega⟩
      · have := HM.out; omega
      · have := HM.out; omega
      · exact val_next x p k hk (by omega) hlo.out (by rw [← HB.out, hb0])
    · have hb0 : b ≠ 0 := by simp_all
      go_ret
      refine ⟨?_, rfl⟩
      have h := val_stop x p k hk (by omega) hlo.out (by rw [← HB.out]; exact hb0)
      rw [← h, ← HM.out]
      rfl
    · go_ret
      refine ⟨?_, rfl⟩
      have : k = 64 := by omega
      subst this
      have h := val_end x p h10 hlo.out
      rw [← h, ← HM.out]
      rfl

theorem own_cell {w : World} {e : TypeId} {g n c i : Nat} {xs : List Value} {u : Value} (h : w.ownsRow 0 e 1 (.slice (some ⟨g, 0, none⟩) n c) n xs) (hu : xs[i]? = some u) : w.cell? ⟨g, i, none⟩ = some u ∧ w.frozen? ⟨g, i, none⟩ = false := by
  rcases own_form h with ⟨h0, _⟩ | ⟨g', cap, h0, _, _, hcell, hf, _⟩
  · cases h0
  · simp only [Value.slice.injEq, Option.some.injEq, Addr.mk.injEq] at h0
    obtain ⟨⟨rfl, _⟩, _⟩ := h0
    exact ⟨hcell i _ hu, hf i⟩

set_option maxHeartbeats 400000 in
/-- spec.Same of two rows of the same numbers. -/
theorem same_any (w : World) (g c g2 c2 M : Nat) (R : List Nat) (hM : R.length = M) (hM1 : M ≤ 1024) (h : w.ownsRow 0 5 1 (.slice (some ⟨g, 0, none⟩) M c) M (R.map vU8)) (h2 : w.ownsRow 0 5 1 (.slice (some ⟨g2, 0, none⟩) M c2) M (R.map vU8)) :
    Calls Tryz.prog 7 #[.slice (some ⟨g, 0, none⟩) M c, .slice (some ⟨g2, 0, none⟩) M c2] w fun e w' => e = .returned (.bool true) ∧ Chg [] w w' := by
  have hcells : ∀ i, i < M → ∃ r : Nat, ∀ n, (w.drewN n).cell? ⟨g, i, none⟩ = some (.int .u8 (r : Int)) ∧ (w.drewN n).cell? ⟨g2, i, none⟩ = some (.int .u8 (r : Int)) := fun i hi => by
    rw [← hM] at hi
    have hr : (R.map vU8)[i]? = some (vU8 R[i]) := by rw [List.getElem?_map, List.getElem?_eq_getElem hi]; rfl
    exact ⟨R[i], fun n => ⟨(own_cell h hr).1, (own_cell h2 hr).1⟩⟩
  have X := Lib.hid hcells
  clear hcells h h2 hM
  go_enter Tryz.func7, Tryz.ntmps7
  go_wp2_with fail
  go_loopw [13] (fun s13 wr => ∃ i n : Nat, i ≤ M ∧ s13 = .int .i64 (i : Int) ∧ wr = w.drewN n) (fun s13 _ => M - (intOf s13).toNat)
  case atStart =>
    exact ⟨0, 0, Nat.zero_le _, rfl, rfl⟩
  case round =>
    obtain ⟨i, n, hi, rfl, rfl⟩ := hrel
    by_cases hlt : i < M
    · obtain ⟨r, hr⟩ := X.out i hlt
      obtain ⟨c1, c2⟩ := hr n
      have hrr : ((r : Int) == (r : Int)) = true := by simp
      go_wp2_with fail
      go_quiet (fail)
      go_wp2_with fail
      go_roundw
      case rel => exact ⟨i + 1, n + nq, by omega, by go_num, rfl⟩
      case measure => simp [intOf]; omega
    · go_wp2_with fail
      go_ret
      exact ⟨rfl, (Chg.refl _ _).drewN n⟩
end Go.Proofs.YtgoliddhhichgaaGreatDoor
