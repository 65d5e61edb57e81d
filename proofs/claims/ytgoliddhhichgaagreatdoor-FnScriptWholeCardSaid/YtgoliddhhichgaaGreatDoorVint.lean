/- Plain lists: varints, lists of differences. No walk. -/
import Derived.Test.YtgoliddhhichgaaGreatDoorMem
namespace Go.Proofs.YtgoliddhhichgaaGreatDoor
open Go.RowKit Pl

theorem vint_small {x : Nat} (h : x < 128) : vint x = [x] := by rw [vint, if_pos h]
theorem vint_big {x : Nat} (h : ¬ x < 128) : vint x = (x % 128 + 128) :: vint (x / 128) := by rw [vint, if_neg h]
theorem vint_pos (x : Nat) : 1 ≤ (vint x).length := by rw [vint]; split <;> simp
theorem vint_lt : ∀ (x : Nat), ∀ b ∈ vint x, b < 256 := by
  intro x
  induction x using Nat.strongRecOn with
  | _ x ih =>
    intro b hb
    by_cases h : x < 128
    · rw [vint_small h] at hb; simp at hb; omega
    · rw [vint_big h] at hb
      rcases List.mem_cons.1 hb with rfl | hb
      · omega
      · exact ih (x / 128) (by omega) b hb
theorem vint_le : ∀ (n x : Nat), x < 128 ^ n → (vint x).length ≤ max n 1
  | 0, x, h => by rw [vint_small (by simp at h; omega)]; simp
  | n + 1, x, h => by
    by_cases hx : x < 128
    · rw [vint_small hx]; simp
    · rw [vint_big hx]
      have h2 := vint_le n (x / 128) (by rw [Nat.pow_succ] at h; omega)
      have : 1 ≤ n := by
        rcases Nat.eq_zero_or_pos n with h0 | h0
        · subst h0; simp at h; omega
        · exact h0
      simp only [List.length_cons]
      omega
theorem vint_le5 (x : Nat) (h : x < 4294967296) : (vint x).length ≤ 5 := by
  have := vint_le 5 x (by omega)
  omega

theorem bytesFrom_append (last : Nat) : ∀ (a b : List Nat), bytesFrom last (a ++ b) = bytesFrom last a ++ bytesFrom (a.getLastD last) b
  | [], b => by simp [bytesFrom]
  | k :: a, b => by
    rw [List.cons_append, bytesFrom, bytesFrom, bytesFrom_append k a b, List.append_assoc]
    congr 2
    cases a <;> simp [List.getLastD]
theorem bytesOf_append (a b : List Nat) : bytesOf (a ++ b) = bytesOf a ++ bytesFrom (a.getLastD 0) b := bytesFrom_append 0 a b
theorem bytesFrom_lt : ∀ (last : Nat) (L : List Nat), ∀ b ∈ bytesFrom last L, b < 256
  | _, [], b, h => by simp [bytesFrom] at h
  | last, k :: L, b, h => by
    rw [bytesFrom] at h
    rcases List.mem_append.1 h with h | h
    · exact vint_lt _ b h
    · exact bytesFrom_lt k L b h
theorem bytesFrom_len : ∀ (last : Nat) (L : List Nat), L.length ≤ (bytesFrom last L).length ∧ (bytesFrom last L).length ≤ 5 * L.length
  | _, [] => by simp [bytesFrom]
  | last, k :: L => by
    have := bytesFrom_len k L
    have h1 := vint_pos ((k + 4294967296 - last) % 4294967296)
    have h2 := vint_le5 ((k + 4294967296 - last) % 4294967296) (Nat.mod_lt _ (by omega))
    rw [bytesFrom]
    simp only [List.length_append, List.length_cons]
    omega
theorem getLastD_append_one (L : List Nat) (x d : Nat) : (L ++ [x]).getLastD d = x := by simp [List.getLastD_eq_getLast?]
theorem getLastD_lt (L : List Nat) (d B : Nat) (hd : d < B) (h : ∀ k ∈ L, k < B) : L.getLastD d < B := by
  rw [List.getLastD_eq_getLast?]
  cases hl : L.getLast? with
  | none => simpa using hd
  | some x => simpa using h x (List.mem_of_getLast? hl)
/-- What is read behind the first keys. -/
theorem bytesFrom_drop (a : List Nat) (k : Nat) (b : List Nat) : (bytesOf (a ++ k :: b)).drop (bytesOf a).length = vint ((k + 4294967296 - a.getLastD 0) % 4294967296) ++ bytesFrom k b := by
  rw [bytesOf_append, List.drop_left, bytesFrom]
theorem diff_back (k last : Nat) (hk : k < 4294967296) (hl : last < 4294967296) : ((k + 4294967296 - last) % 4294967296 + last) % 4294967296 = k := by omega
theorem bytesOf_lt_iff (a b : List Nat) : (bytesOf a).length < (bytesOf (a ++ b)).length ↔ b ≠ [] := by
  rw [bytesOf_append, List.length_append]
  have := bytesFrom_len (a.getLastD 0) b
  cases b with
  | nil => simp [bytesFrom]
  | cons k b =>
    simp only [List.length_cons] at this
    have h0 : (k :: b) ≠ [] := by simp
    constructor
    · intro _; exact h0
    · intro _; omega
end Go.Proofs.YtgoliddhhichgaaGreatDoor
