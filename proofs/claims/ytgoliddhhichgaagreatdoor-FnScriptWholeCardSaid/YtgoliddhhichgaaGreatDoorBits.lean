/- Plain numbers: the sparse form of a hash decodes to the register and the value of the dense form. No program in sight. -/
import Derived.Lib.BitFns
namespace Go.Proofs.YtgoliddhhichgaaGreatDoor.Pl
open Go

theorem bl_zero : Lib.bitLen 0 = 0 := by decide
theorem bl_half (x : Nat) (h0 : x ≠ 0) (h : x < 2 ^ 64) : Lib.bitLen x = 1 + Lib.bitLen (x / 2) := Lib.bitLen_half x h0 h
theorem bl_pos (x : Nat) (h0 : 0 < x) (h : x < 2 ^ 64) : 0 < Lib.bitLen x := by rw [bl_half x (by omega) h]; omega
theorem bl_le : ∀ (k x : Nat), k ≤ 64 → x < 2 ^ k → Lib.bitLen x ≤ k
  | 0, x, _, h => by
    have : x = 0 := by simpa using h
    subst this; rw [bl_zero]; omega
  | k + 1, x, hk, h => by
    by_cases h0 : x = 0
    · subst h0; rw [bl_zero]; omega
    · have h64 : x < 2 ^ 64 := Nat.lt_of_lt_of_le h (Nat.pow_le_pow_right (by omega) hk)
      rw [bl_half x h0 h64]
      have := bl_le k (x / 2) (by omega) (by rw [Nat.pow_succ] at h; omega)
      omega
/-- A number with k bits behind it. -/
theorem bl_add (k a b : Nat) (ha : 0 < a) (hb : b < 2 ^ k) (h : a * 2 ^ k + b < 2 ^ 64) : Lib.bitLen (a * 2 ^ k + b) = Lib.bitLen a + k := by
  have h1 : 2 ^ k ≤ a * 2 ^ k + b := by
    have : 1 * 2 ^ k ≤ a * 2 ^ k := Nat.mul_le_mul_right _ ha
    omega
  rw [Lib.bitLen_shift k _ h1 h]
  have : (a * 2 ^ k + b) / 2 ^ k = a := by
    rw [Nat.mul_comm, Nat.mul_add_div (Nat.two_pow_pos k), Nat.div_eq_of_lt hb]; rfl
  rw [this]; omega

/-- The register of a hash, and its value. -/
def pos (p x : Nat) : Nat := x / 2 ^ (64 - p)
def val (p x : Nat) : Nat := 65 - p - Lib.bitLen (x % 2 ^ (64 - p))
/-- The sparse form. -/
def enc (p x : Nat) : Nat := if x / 549755813888 % 2 ^ (25 - p) = 0 then x / 549755813888 * 128 + (40 - Lib.bitLen (x % 549755813888)) * 2 + 1 else x / 549755813888 * 2
/-- What a sparse key tells. -/
def decI (p k : Nat) : Nat := if k % 2 = 1 then k / 2 ^ (32 - p) else k / 2 ^ (26 - p) % 2 ^ p
def decR (p k : Nat) : Nat := if k % 2 = 1 then k / 2 % 64 + 25 - p else 33 - Lib.bitLen (k * 2 ^ (p + 6) % 4294967296)

theorem low_le (x : Nat) : Lib.bitLen (x % 549755813888) ≤ 39 := bl_le 39 _ (by omega) (by omega)

theorem dec_enc (p x : Nat) (h4 : 4 ≤ p) (h10 : p ≤ 10) (hx : x < 18446744073709551616) : decI p (enc p x) = pos p x ∧ decR p (enc p x) = val p x := by
  have hl := low_le x
  have key : ∀ (q r : Nat), q = 25 - p → r = p + 7 → (x / 549755813888 % 2 ^ q) < 2 ^ q → 2 ^ r * 2 ^ q = 4294967296 → x % (2 ^ q * 549755813888) = x / 549755813888 % 2 ^ q * 549755813888 + x % 549755813888 →
      x / 549755813888 % 2 ^ q ≠ 0 → 33 - Lib.bitLen (x / 549755813888 * 2 * 2 ^ (p + 6) % 4294967296) = 65 - p - Lib.bitLen (x % (2 ^ q * 549755813888)) := by
    intro q r hq hr hlt hm hs h0
    have e1 : x / 549755813888 * 2 * 2 ^ (p + 6) % 4294967296 = (x / 549755813888 % 2 ^ q) * 2 ^ r := by
      have : x / 549755813888 * 2 * 2 ^ (p + 6) = x / 549755813888 * 2 ^ r := by
        rw [hr, Nat.mul_assoc, show p + 7 = (p + 6) + 1 from rfl, Nat.pow_succ' (n := p + 6)]
      rw [this, ← hm, Nat.mul_comm (2 ^ r) (2 ^ q), Nat.mul_mod_mul_right]
    have hpos : 0 < x / 549755813888 % 2 ^ q := by omega
    have hb : x / 549755813888 % 2 ^ q * 2 ^ r < 4294967296 := by
      rw [← hm, Nat.mul_comm (2 ^ r)]
      exact Nat.mul_lt_mul_of_pos_right hlt (Nat.two_pow_pos r)
    have e2 := bl_add r (x / 549755813888 % 2 ^ q) 0 hpos (Nat.two_pow_pos r) (by omega)
    rw [Nat.add_zero] at e2
    have hq25 : 2 ^ q ≤ 2 ^ 25 := Nat.pow_le_pow_right (by omega) (by omega)
    have e3 : Lib.bitLen (x / 549755813888 % 2 ^ q * 549755813888 + x % 549755813888) = Lib.bitLen (x / 549755813888 % 2 ^ q) + 39 := bl_add 39 (x / 549755813888 % 2 ^ q) (x % 549755813888) hpos (by omega) (by omega)
    rw [e1, e2, hs, e3]
    omega
  unfold decI decR enc pos val
  rcases (by omega : p = 4 ∨ p = 5 ∨ p = 6 ∨ p = 7 ∨ p = 8 ∨ p = 9 ∨ p = 10) with h | h | h | h | h | h | h <;> subst h
  all_goals
    first
      | have k1 := key 21 11 rfl rfl (by omega) (by decide) (by omega)
      | have k1 := key 20 12 rfl rfl (by omega) (by decide) (by omega)
      | have k1 := key 19 13 rfl rfl (by omega) (by decide) (by omega)
      | have k1 := key 18 14 rfl rfl (by omega) (by decide) (by omega)
      | have k1 := key 17 15 rfl rfl (by omega) (by decide) (by omega)
      | have k1 := key 16 16 rfl rfl (by omega) (by decide) (by omega)
      | have k1 := key 15 17 rfl rfl (by omega) (by decide) (by omega)
    split
    · rename_i h0
      have e : ∀ m, x / 549755813888 % m = 0 → x % (m * 549755813888) = x % 549755813888 := fun m hm => by
        rw [Nat.mul_comm, Nat.mod_mul, hm]; simp
      have e' := e _ h0
      simp only [Nat.reduceSub, Nat.reducePow, Nat.reduceMul, Nat.reduceAdd] at *
      rw [if_pos (by omega), if_pos (by omega), e']
      constructor <;> omega
    · rename_i h0
      have k2 := k1 h0
      simp only [Nat.reduceSub, Nat.reducePow, Nat.reduceMul, Nat.reduceAdd] at *
      rw [if_neg (by omega), if_neg (by omega), k2]
      constructor <;> omega

theorem enc_lt (p x : Nat) (hx : x < 18446744073709551616) : enc p x < 4294967296 := by
  have hl := low_le x
  unfold enc
  split <;> omega
theorem pos_lt (p x : Nat) (h10 : p ≤ 10) (hx : x < 18446744073709551616) : pos p x < 2 ^ p := by
  unfold pos
  rw [Nat.div_lt_iff_lt_mul (Nat.two_pow_pos _), ← Nat.pow_add, show p + (64 - p) = 64 by omega]
  exact hx
theorem val_le (p x : Nat) : val p x ≤ 65 - p := Nat.sub_le _ _
theorem val_pos (p x : Nat) (h10 : p ≤ 10) : 1 ≤ val p x := by
  unfold val
  have := bl_le (64 - p) (x % 2 ^ (64 - p)) (by omega) (Nat.mod_lt _ (Nat.two_pow_pos _))
  omega
end Go.Proofs.YtgoliddhhichgaaGreatDoor.Pl
