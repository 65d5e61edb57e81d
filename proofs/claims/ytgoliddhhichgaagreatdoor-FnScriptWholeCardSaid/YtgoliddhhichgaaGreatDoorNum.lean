/- The walks of the functions that only reckon with numbers. -/
import Derived.Test.YtgoliddhhichgaaGreatDoorRows
import Derived.Test.YtgoliddhhichgaaGreatDoorBits
import Derived.Test.YtgoliddhhichgaaGreatDoorShelf
import Derived.WalkKit
import Derived.WalkSpells
import Derived.WalkLawsBesides
import Derived.Laws.BitsAllLaws
import Derived.Lib.Hide
namespace Go.Proofs.YtgoliddhhichgaaGreatDoor
open Go.RowKit Pl

theorem wrap_pow64 (l : Nat) (h : l < 64) : IntKind.u64.wrap (IntKind.u64.wrap (2 ^ l) - 1) = ((2 ^ l - 1 : Nat) : Int) := by
  have h1 : 2 ^ l ≤ 2 ^ 63 := Nat.pow_le_pow_right (by omega) (by omega)
  have h2 : 1 ≤ 2 ^ l := Nat.two_pow_pos l
  have e : ((2 : Int) ^ l) = ((2 ^ l : Nat) : Int) := by simp
  rw [e, IntKind.wrap_u64, IntKind.wrap_u64]
  omega
theorem wrap_pow32 (l : Nat) (h : l < 32) : ((2 : Int) ^ l - 1) % 4294967296 = ((2 ^ l - 1 : Nat) : Int) := by
  have h1 : 2 ^ l ≤ 2 ^ 31 := Nat.pow_le_pow_right (by omega) (by omega)
  have h2 : 1 ≤ 2 ^ l := Nat.two_pow_pos l
  have e : ((2 : Int) ^ l) = ((2 ^ l : Nat) : Int) := by simp
  rw [e]
  omega

theorem bext_num (v s l : Nat) (hv : v < 18446744073709551616) (hl : l < 64) :
    bits BinOp.and IntKind.u64 (↑v / 2 ^ s) (IntKind.u64.wrap (IntKind.u64.wrap (2 ^ l) - 1)) = (((v / 2 ^ s) % 2 ^ l : Nat) : Int) := by
  have h1 : 2 ^ l ≤ 2 ^ 63 := Nat.pow_le_pow_right (by omega) (by omega)
  have e : ((v : Int) / 2 ^ s) = ((v / 2 ^ s : Nat) : Int) := by simp
  have hle : v / 2 ^ s ≤ v := Nat.div_le_self _ _
  rw [wrap_pow64 l hl, e, u64_and_nat _ _ (by omega) (by omega), Nat.and_two_pow_sub_one_eq_mod]
theorem bext_num32 (v s l : Nat) (hv : v < 4294967296) (hl : l < 32) :
    bits BinOp.and IntKind.u32 (↑v / 2 ^ s) ((2 ^ l - 1) % 4294967296) = (((v / 2 ^ s) % 2 ^ l : Nat) : Int) := by
  have h1 : 2 ^ l ≤ 2 ^ 31 := Nat.pow_le_pow_right (by omega) (by omega)
  have e : ((v : Int) / 2 ^ s) = ((v / 2 ^ s : Nat) : Int) := by simp
  have hle : v / 2 ^ s ≤ v := Nat.div_le_self _ _
  rw [wrap_pow32 l hl, e, u32_and_nat _ _ (by omega) (by omega), Nat.and_two_pow_sub_one_eq_mod]

theorem ret_num {k : IntKind} {a b : Int} (h : a = b) : Ending.returned (.int k a) = .returned (.int k b) := by rw [h]
theorem ret_num2 {k k' : IntKind} {a b a' b' : Int} (h : a = b) (h' : a' = b') : Ending.returned (.tuple #[.int k a, .int k' a']) = .returned (.tuple #[.int k b, .int k' b']) := by rw [h, h']

set_option maxHeartbeats 400000 in
theorem bextr_any (v s l : Int) (w : World) (hv0 : 0 ≤ v) (hv : v < 18446744073709551616) (hs0 : 0 ≤ s) (hs : s < 64) (hl0 : 0 ≤ l) (hl : l < 64) :
    Calls Tryz.prog 51 #[.int .u64 v, .int .u8 s, .int .u8 l] w fun e w' => e = .returned (.int .u64 (((v.toNat / 2 ^ s.toNat) % 2 ^ l.toNat : Nat) : Int)) ∧ w = w' := by
  obtain ⟨v, rfl⟩ := Int.eq_ofNat_of_zero_le hv0
  obtain ⟨s, rfl⟩ := Int.eq_ofNat_of_zero_le hs0
  obtain ⟨l, rfl⟩ := Int.eq_ofNat_of_zero_le hl0
  go_enter Tryz.func51, Tryz.ntmps51
  go_wp2
  go_ret
  exact ⟨ret_num (by simpa only [Int.toNat_natCast] using bext_num v s l (by omega) (by omega)), rfl⟩

set_option maxHeartbeats 400000 in
theorem bextr32_any (v s l : Int) (w : World) (hv0 : 0 ≤ v) (hv : v < 4294967296) (hs0 : 0 ≤ s) (hs : s < 32) (hl0 : 0 ≤ l) (hl : l < 32) :
    Calls Tryz.prog 82 #[.int .u32 v, .int .u8 s, .int .u8 l] w fun e w' => e = .returned (.int .u32 (((v.toNat / 2 ^ s.toNat) % 2 ^ l.toNat : Nat) : Int)) ∧ w = w' := by
  obtain ⟨v, rfl⟩ := Int.eq_ofNat_of_zero_le hv0
  obtain ⟨s, rfl⟩ := Int.eq_ofNat_of_zero_le hs0
  obtain ⟨l, rfl⟩ := Int.eq_ofNat_of_zero_le hl0
  go_enter Tryz.func82, Tryz.ntmps82
  go_wp2
  go_ret
  exact ⟨ret_num (by simpa only [Int.toNat_natCast] using bext_num32 v s l (by omega) (by omega)), rfl⟩

set_option maxHeartbeats 400000 in
theorem maxRho_any (p : Int) (w : World) (h4 : 4 ≤ p) (h10 : p ≤ 10) :
    Calls Tryz.prog 69 #[.int .u8 p] w fun e w' => e = .returned (.int .u8 (65 - p)) ∧ w = w' := by
  go_enter Tryz.func69, Tryz.ntmps69
  go_wp2
  go_ret
  exact ⟨ret_num (by omega), rfl⟩

set_option maxHeartbeats 400000 in
theorem checkPrecision_any (p : Int) (w : World) (h4 : 4 ≤ p) (h10 : p ≤ 10) :
    Calls Tryz.prog 22 #[.int .u8 p] w fun e w' => e = .returned .nilIface ∧ w = w' := by
  go_enter Tryz.func22, Tryz.ntmps22
  go_wp2
  go_ret
  exact ⟨rfl, rfl⟩

theorem lz64_any (x : Int) (w : World) (h0 : 0 ≤ x) (h : x < 18446744073709551616) :
    Calls Tryz.prog 52 #[.int .u64 x] w fun e w' => e = .returned (.int .i64 (64 - (Lib.bitLen x.toNat : Int))) ∧ w = w' :=
  (Tryz.bits_LeadingZeros64 x w h0 (by omega)).mono fun _ _ ⟨he, hw⟩ => ⟨he, hw.symm⟩

theorem and1_u32 (k : Nat) (h : k < 4294967296) : bits BinOp.and IntKind.u32 (k : Int) 1 = ((k % 2 : Nat) : Int) := by
  have := u32_and_nat k 1 h (by omega)
  rw [nat_mask1] at this
  exact this

theorem decI_odd (p k : Nat) (h4 : 4 ≤ p) (h10 : p ≤ 10) (hk : k < 4294967296) (ho : k % 2 = 1) : ((k : Int) / 2 ^ (32 - p) % 2 ^ p) = ((decI p k : Nat) : Int) := by
  have e : ((k : Int) / 2 ^ (32 - p) % 2 ^ p) = ((k / 2 ^ (32 - p) % 2 ^ p : Nat) : Int) := by simp
  rw [e]
  unfold decI
  rw [if_pos ho]
  congr 1
  refine Nat.mod_eq_of_lt ?_
  rw [Nat.div_lt_iff_lt_mul (Nat.two_pow_pos _), ← Nat.pow_add, show p + (32 - p) = 32 by omega]
  exact hk
theorem decI_even (p k : Nat) (h4 : 4 ≤ p) (h10 : p ≤ 10) (ho : ¬ k % 2 = 1) : ((k : Int) / 2 ^ (25 - (p : Int) + 1).toNat % 2 ^ p) = ((decI p k : Nat) : Int) := by
  have e : ((k : Int) / 2 ^ (26 - p) % 2 ^ p) = ((k / 2 ^ (26 - p) % 2 ^ p : Nat) : Int) := by simp
  rw [show (25 - (p : Int) + 1).toNat = 26 - p by omega, e]
  unfold decI
  rw [if_neg ho]

set_option maxHeartbeats 400000 in
theorem getIndex_any (k p : Int) (w : World) (hk0 : 0 ≤ k) (hk : k < 4294967296) (h4 : 4 ≤ p) (h10 : p ≤ 10) :
    Calls Tryz.prog 83 #[.int .u32 k, .int .u8 p, .int .u8 25] w fun e w' => e = .returned (.int .u32 ((decI p.toNat k.toNat : Nat) : Int)) ∧ w = w' := by
  obtain ⟨k, rfl⟩ := Int.eq_ofNat_of_zero_le hk0
  obtain ⟨p, rfl⟩ := Int.eq_ofNat_of_zero_le (show 0 ≤ p by omega)
  have h1 := and1_u32 k (by omega)
  by_cases ho : k % 2 = 1
  · have hb : (bits BinOp.and IntKind.u32 (k : Int) 1 == 1) = true := by rw [h1, ho]; rfl
    clear h1
    go_enter Tryz.func83, Tryz.ntmps83
    go_wp2_with (go_at_call 82; refine (bextr32_any _ _ _ _ (by omega) (by omega) (by omega) (by omega) (by omega) (by omega)).mono ?_; rintro e w' ⟨rfl, rfl⟩)
    go_ret
    exact ⟨ret_num (decI_odd p k (by omega) (by omega) (by omega) ho), rfl⟩
  · have hb : (bits BinOp.and IntKind.u32 (k : Int) 1 == 1) = false := by rw [h1, show k % 2 = 0 by omega]; rfl
    clear h1
    go_enter Tryz.func83, Tryz.ntmps83
    go_wp2_with (go_at_call 82; refine (bextr32_any _ _ _ _ (by omega) (by omega) (by omega) (by omega) (by omega) (by omega)).mono ?_; rintro e w' ⟨rfl, rfl⟩)
    go_ret
    exact ⟨ret_num (decI_even p k (by omega) (by omega) ho), rfl⟩

theorem decR_odd (p k : Nat) (h10 : p ≤ 10) (ho : k % 2 = 1) : ((k : Int) / 2 % 64 + 25 - (p : Int)) = ((decR p k : Nat) : Int) := by
  unfold decR
  rw [if_pos ho]
  omega
theorem decR_even (p k : Nat) (ho : ¬ k % 2 = 1) : wrap64 (64 - ((Lib.bitLen ((k : Int) * 2 ^ (6 + p) % 4294967296).toNat : Nat) : Int) - 31) % 256 = ((decR p k : Nat) : Int) := by
  have e : ((k : Int) * 2 ^ (6 + p) % 4294967296).toNat = k * 2 ^ (p + 6) % 4294967296 := by
    have : ((k : Int) * 2 ^ (6 + p) % 4294967296) = ((k * 2 ^ (p + 6) % 4294967296 : Nat) : Int) := by rw [Nat.add_comm]; simp
    rw [this, Int.toNat_natCast]
  have hb : Lib.bitLen (k * 2 ^ (p + 6) % 4294967296) ≤ 32 := bl_le 32 _ (by omega) (Nat.mod_lt _ (by omega))
  rw [e]
  unfold decR wrap64
  rw [if_neg ho]
  omega

set_option maxHeartbeats 400000 in
theorem decodeHash_any (k p : Int) (w : World) (hk0 : 0 ≤ k) (hk : k < 4294967296) (h4 : 4 ≤ p) (h10 : p ≤ 10) :
    Calls Tryz.prog 63 #[.int .u32 k, .int .u8 p, .int .u8 25] w fun e w' => e = .returned (.tuple #[.int .u32 ((decI p.toNat k.toNat : Nat) : Int), .int .u8 ((decR p.toNat k.toNat : Nat) : Int)]) ∧ w = w' := by
  obtain ⟨k, rfl⟩ := Int.eq_ofNat_of_zero_le hk0
  obtain ⟨p, rfl⟩ := Int.eq_ofNat_of_zero_le (show 0 ≤ p by omega)
  have h1 := and1_u32 k (by omega)
  by_cases ho : k % 2 = 1
  · have hb : (bits BinOp.and IntKind.u32 (k : Int) 1 == 1) = true := by rw [h1, ho]; rfl
    clear h1
    go_enter Tryz.func63, Tryz.ntmps63
    go_wp2_with (first
      | (go_at_call 82; refine (bextr32_any _ _ _ _ (by omega) (by omega) (by omega) (by omega) (by omega) (by omega)).mono ?_; rintro e w' ⟨rfl, rfl⟩)
      | (go_at_call 83; refine (getIndex_any _ _ _ (by omega) (by omega) (by omega) (by omega)).mono ?_; rintro e w' ⟨rfl, rfl⟩))
    go_ret2
    exact ⟨ret_num2 rfl (decR_odd p k (by omega) ho), rfl⟩
  · have hb : (bits BinOp.and IntKind.u32 (k : Int) 1 == 1) = false := by rw [h1, show k % 2 = 0 by omega]; rfl
    clear h1
    go_enter Tryz.func63, Tryz.ntmps63
    go_wp2_with (first
      | (go_at_call 52; refine (lz64_any _ _ (by omega) (by omega)).mono ?_; rintro e w' ⟨rfl, rfl⟩)
      | (go_at_call 83; refine (getIndex_any _ _ _ (by omega) (by omega) (by omega) (by omega)).mono ?_; rintro e w' ⟨rfl, rfl⟩))
    go_ret2
    exact ⟨ret_num2 rfl (decR_even p k ho), rfl⟩

set_option maxHeartbeats 400000 in
theorem checkSparseKey_any (k p : Int) (w : World) (hk0 : 0 ≤ k) (hk : k < 4294967296) (h4 : 4 ≤ p) (h10 : p ≤ 10) (hr : decR p.toNat k.toNat ≤ 65 - p.toNat) :
    Calls Tryz.prog 40 #[.int .u32 k, .int .u8 p] w fun e w' => e = .returned .nilIface ∧ w = w' := by
  have hr' : ¬ (65 - p < ((decR p.toNat k.toNat : Nat) : Int)) := by omega
  clear hr
  go_enter Tryz.func40, Tryz.ntmps40
  go_wp2_with (first
    | (go_at_call 69; refine (maxRho_any _ _ (by omega) (by omega)).mono ?_; rintro e w' ⟨rfl, rfl⟩)
    | (go_at_call 63; refine (decodeHash_any _ _ _ (by omega) (by omega) (by omega) (by omega)).mono ?_; rintro e w' ⟨rfl, rfl⟩))
  go_ret
  exact ⟨rfl, rfl⟩

theorem posval_word (x p : Nat) (h4 : 4 ≤ p) (h10 : p ≤ 10) :
    bits BinOp.or IntKind.u64 (IntKind.u64.wrap ((x : Int) * 2 ^ p)) (IntKind.u64.wrap (2 ^ (p - 1))) = ((x % 2 ^ (64 - p) * 2 ^ p + 2 ^ (p - 1) : Nat) : Int) := by
  have e0 : IntKind.u64.wrap ((x : Int) * 2 ^ p) = ((x % 2 ^ (64 - p) * 2 ^ p : Nat) : Int) := by
    have e : ((x : Int) * 2 ^ p) = ((x * 2 ^ p : Nat) : Int) := by simp
    have e2 : x * 2 ^ p % 18446744073709551616 = x % 2 ^ (64 - p) * 2 ^ p := by
      rw [show (18446744073709551616 : Nat) = 2 ^ (64 - p) * 2 ^ p by rw [← Nat.pow_add, show 64 - p + p = 64 by omega], Nat.mul_mod_mul_right]
    rw [e, IntKind.wrap_u64, ← e2]
    omega
  have e1 : IntKind.u64.wrap (2 ^ (p - 1)) = ((2 ^ (p - 1) : Nat) : Int) := by
    have h9 : 2 ^ (p - 1) ≤ 2 ^ 9 := Nat.pow_le_pow_right (by omega) (by omega)
    have e : ((2 : Int) ^ (p - 1)) = ((2 ^ (p - 1) : Nat) : Int) := by simp
    have hg : ∀ q : Nat, q ≤ 512 → IntKind.u64.wrap (q : Int) = q := fun q hq => by rw [IntKind.wrap_u64]; omega
    rw [e, hg _ h9]
  have h1 : 2 ^ (p - 1) ≤ 2 ^ 9 := Nat.pow_le_pow_right (by omega) (by omega)
  have h2 : 2 ^ (p - 1) < 2 ^ p := Nat.pow_lt_pow_right (by omega) (by omega)
  have hm : x % 2 ^ (64 - p) * 2 ^ p < 18446744073709551616 := by
    have : x % 2 ^ (64 - p) < 2 ^ (64 - p) := Nat.mod_lt _ (Nat.two_pow_pos _)
    calc x % 2 ^ (64 - p) * 2 ^ p < 2 ^ (64 - p) * 2 ^ p := Nat.mul_lt_mul_of_pos_right this (Nat.two_pow_pos _)
      _ = 18446744073709551616 := by rw [← Nat.pow_add, show 64 - p + p = 64 by omega]
  rw [e0, e1, u64_or_nat _ _ hm (by omega), nat_join p _ _ (Nat.mul_mod_left _ _) h2]
theorem posval_lt (x p : Nat) (h4 : 4 ≤ p) (h10 : p ≤ 10) : x % 2 ^ (64 - p) * 2 ^ p + 2 ^ (p - 1) < 18446744073709551616 := by
  have h2 : 2 ^ (p - 1) < 2 ^ p := Nat.pow_lt_pow_right (by omega) (by omega)
  have h3 : x % 2 ^ (64 - p) + 1 ≤ 2 ^ (64 - p) := Nat.mod_lt _ (Nat.two_pow_pos _)
  have h4 : (x % 2 ^ (64 - p) + 1) * 2 ^ p ≤ 2 ^ (64 - p) * 2 ^ p := Nat.mul_le_mul_right _ h3
  rw [← Nat.pow_add, show 64 - p + p = 64 by omega, Nat.add_mul] at h4
  omega
theorem posval_len (x p : Nat) (h4 : 4 ≤ p) (h10 : p ≤ 10) : 64 - (Lib.bitLen (x % 2 ^ (64 - p) * 2 ^ p + 2 ^ (p - 1)) : Int) + 1 = ((val p x : Nat) : Int) := by
  have hlt := posval_lt x p h4 h10
  have hm : x % 2 ^ (64 - p) < 2 ^ (64 - p) := Nat.mod_lt _ (Nat.two_pow_pos _)
  have hb := bl_le (64 - p) (x % 2 ^ (64 - p)) (by omega) hm
  have h2 : 2 ^ (p - 1) < 2 ^ p := Nat.pow_lt_pow_right (by omega) (by omega)
  unfold val
  by_cases h0 : x % 2 ^ (64 - p) = 0
  · rw [h0, bl_zero] at *
    have h3 : Lib.bitLen (0 * 2 ^ p + 2 ^ (p - 1)) = p := by
      rw [Nat.zero_mul, Nat.zero_add]
      have := bl_add (p - 1) 1 0 (by omega) (Nat.two_pow_pos _) (by omega)
      rw [Nat.one_mul, Nat.add_zero, show Lib.bitLen 1 = 1 by decide] at this
      omega
    rw [h3]
    omega
  · rw [bl_add p _ _ (by omega) h2 hlt]
    omega

set_option maxHeartbeats 400000 in
theorem getPosVal_any (x p : Int) (w : World) (hx0 : 0 ≤ x) (hx : x < 18446744073709551616) (h4 : 4 ≤ p) (h10 : p ≤ 10) :
    Calls Tryz.prog 31 #[.int .u64 x, .int .u8 p] w fun e w' => e = .returned (.tuple #[.int .u64 ((pos p.toNat x.toNat : Nat) : Int), .int .u8 ((val p.toNat x.toNat : Nat) : Int)]) ∧ w = w' := by
  obtain ⟨x, rfl⟩ := Int.eq_ofNat_of_zero_le hx0
  obtain ⟨p, rfl⟩ := Int.eq_ofNat_of_zero_le (show 0 ≤ p by omega)
  simp only [Int.toNat_natCast]
  have c1 : Calls Tryz.prog 51 #[.int .u64 x, .int .u8 (64 - (p : Int)), .int .u8 p] w fun e w' => e = .returned (.int .u64 (pos p x : Nat)) ∧ w = w' := by
    have h := bextr_any x (64 - (p : Int)) p w (by omega) (by omega) (by omega) (by omega) (by omega) (by omega)
    simp only [Int.toNat_natCast, show (64 - (p : Int)).toNat = 64 - p by omega] at h
    have e := Nat.mod_eq_of_lt (pos_lt p x (by omega) (by omega))
    unfold pos at e
    rw [e] at h
    exact h
  have c2 : Calls Tryz.prog 52 #[.int .u64 (bits BinOp.or IntKind.u64 (IntKind.u64.wrap ((x : Int) * 2 ^ p)) (IntKind.u64.wrap (2 ^ (p - 1))))] w fun e w' => ∃ v : Nat, 1 ≤ v ∧ v ≤ 64 ∧ e = .returned (.int .i64 ((v : Int) - 1)) ∧ v = val p x ∧ w = w' := by
    rw [posval_word x p (by omega) (by omega)]
    have hlt := posval_lt x p (by omega) (by omega)
    have h := posval_len x p (by omega) (by omega)
    generalize x % 2 ^ (64 - p) * 2 ^ p + 2 ^ (p - 1) = W at hlt h ⊢
    refine (lz64_any _ w (by omega) (by omega)).mono ?_
    rintro e w' ⟨rfl, rfl⟩
    have h1 := val_pos p x (by omega)
    have h2 := val_le p x
    refine ⟨val p x, h1, by omega, ?_, rfl, rfl⟩
    rw [Int.toNat_natCast]
    exact ret_num (by omega)
  go_enter Tryz.func31, Tryz.ntmps31
  go_wp2_with (first
      | (go_at_call 51; refine c1.mono ?_; rintro e w' ⟨rfl, rfl⟩)
      | (go_at_call 52; refine c2.mono ?_; rintro e w' ⟨v, hv1, hv2, rfl, hv, rfl⟩; have HV := Lib.hid hv; clear hv))
  go_ret2
  exact ⟨ret_num2 rfl (by rw [← HV.out]), rfl⟩

theorem zeros_word (x : Nat) : bits BinOp.or IntKind.u64 (IntKind.u64.wrap ((x % 549755813888 : Nat) * 33554432)) 33554431 = ((x % 549755813888 * 33554432 + 33554431 : Nat) : Int) := by
  have hm : x % 549755813888 < 549755813888 := Nat.mod_lt _ (by omega)
  have e0 : IntKind.u64.wrap (((x % 549755813888 : Nat) : Int) * 33554432) = ((x % 549755813888 * 33554432 : Nat) : Int) := by
    rw [IntKind.wrap_u64]; omega
  rw [e0]
  have := u64_or_nat (x % 549755813888 * 33554432) 33554431 (by omega) (by omega)
  rw [show ((33554431 : Nat) : Int) = 33554431 from rfl] at this
  rw [this, nat_join 25 _ _ (Nat.mul_mod_left _ _) (by omega)]
theorem zeros_len (x : Nat) : 64 - (Lib.bitLen (x % 549755813888 * 33554432 + 33554431) : Int) + 1 = ((40 - Lib.bitLen (x % 549755813888) : Nat) : Int) := by
  have hl := low_le x
  by_cases h0 : x % 549755813888 = 0
  · rw [h0, bl_zero]
    rw [show Lib.bitLen (0 * 33554432 + 33554431) = 25 by decide +kernel]
    omega
  · have := bl_add 25 (x % 549755813888) 33554431 (by omega) (by omega) (by omega)
    rw [show (2 : Nat) ^ 25 = 33554432 from rfl] at this
    rw [this]
    omega

theorem key_word (idx v : Nat) (hi : idx < 33554432) (hv : v ≤ 40) : bits BinOp.or IntKind.u32 (bits BinOp.or IntKind.u32 ((idx : Int) * 128) ((v : Int) * 2)) 1 = ((idx * 128 + v * 2 + 1 : Nat) : Int) := by
  have e1 := u32_or_nat (idx * 128) (v * 2) (by omega) (by omega)
  rw [nat_join 7 _ _ (by omega) (by omega), Int.natCast_mul, Int.natCast_mul] at e1
  have e2 := u32_or_nat (idx * 128 + v * 2) 1 (by omega) (by omega)
  rw [nat_join 1 _ _ (by omega) (by omega)] at e2
  rw [show ((idx : Int) * 128) = (idx : Int) * ((128 : Nat) : Int) from rfl, show ((v : Int) * 2) = (v : Int) * ((2 : Nat) : Int) from rfl, e1]
  exact e2

set_option maxHeartbeats 400000 in
theorem encodeHash_any (x p : Int) (w : World) (hx0 : 0 ≤ x) (hx : x < 18446744073709551616) (h4 : 4 ≤ p) (h10 : p ≤ 10) :
    Calls Tryz.prog 29 #[.int .u64 x, .int .u8 p, .int .u8 25] w fun e w' => e = .returned (.int .u32 ((enc p.toNat x.toNat : Nat) : Int)) ∧ w = w' := by
  obtain ⟨x, rfl⟩ := Int.eq_ofNat_of_zero_le hx0
  obtain ⟨p, rfl⟩ := Int.eq_ofNat_of_zero_le (show 0 ≤ p by omega)
  simp only [Int.toNat_natCast]
  obtain ⟨idx, hidx⟩ : ∃ idx, idx = x / 549755813888 := ⟨_, rfl⟩
  obtain ⟨t, ht⟩ : ∃ t, t = idx % 2 ^ (25 - p) := ⟨_, rfl⟩
  obtain ⟨lo, hlo⟩ : ∃ lo, lo = x % 549755813888 := ⟨_, rfl⟩
  have hi25 : idx < 33554432 := by omega
  have c1 : Calls Tryz.prog 51 #[.int .u64 x, .int .u8 39, .int .u8 25] w fun e w' => e = .returned (.int .u64 (idx : Int)) ∧ w = w' := by
    have h := bextr_any x 39 25 w (by omega) (by omega) (by omega) (by omega) (by omega) (by omega)
    rw [Int.toNat_natCast, show (x / 2 ^ (39 : Int).toNat) % 2 ^ (25 : Int).toNat = idx by rw [hidx]; show x / 549755813888 % 33554432 = _; omega] at h
    exact h
  have c2 : Calls Tryz.prog 51 #[.int .u64 x, .int .u8 39, .int .u8 (25 - (p : Int))] w fun e w' => e = .returned (.int .u64 (t : Int)) ∧ w = w' := by
    have h := bextr_any x 39 (25 - (p : Int)) w (by omega) (by omega) (by omega) (by omega) (by omega) (by omega)
    rw [Int.toNat_natCast, show (x / 2 ^ (39 : Int).toNat) % 2 ^ (25 - (p : Int)).toNat = t by rw [ht, hidx, show (25 - (p : Int)).toNat = 25 - p by omega]; rfl] at h
    exact h
  have c3 : Calls Tryz.prog 51 #[.int .u64 x, .int .u8 0, .int .u8 39] w fun e w' => e = .returned (.int .u64 (lo : Int)) ∧ w = w' := by
    have h := bextr_any x 0 39 w (by omega) (by omega) (by omega) (by omega) (by omega) (by omega)
    rw [Int.toNat_natCast, show (x / 2 ^ (0 : Int).toNat) % 2 ^ (39 : Int).toNat = lo by rw [hlo]; simp] at h
    exact h
  have c4 : Calls Tryz.prog 52 #[.int .u64 (bits BinOp.or IntKind.u64 (IntKind.u64.wrap ((lo : Int) * 33554432)) 33554431)] w fun e w' => ∃ v : Nat, 1 ≤ v ∧ v ≤ 40 ∧ e = .returned (.int .i64 ((v : Int) - 1)) ∧ v = 40 - Lib.bitLen lo ∧ w = w' := by
    have h1 := zeros_word x
    have h2 := zeros_len x
    have h3 := low_le x
    rw [← hlo] at h1 h2 h3
    rw [h1]
    refine (lz64_any _ w (by omega) (by omega)).mono ?_
    rintro e w' ⟨rfl, rfl⟩
    refine ⟨40 - Lib.bitLen lo, by omega, by omega, ?_, rfl, rfl⟩
    rw [Int.toNat_natCast]
    exact ret_num (by omega)
  have henc : enc p x = if t = 0 then idx * 128 + (40 - Lib.bitLen lo) * 2 + 1 else idx * 2 := by rw [ht, hidx, hlo]; rfl
  rw [henc]
  clear henc hidx ht hlo
  by_cases h0 : t = 0
  · subst h0
    rw [if_pos rfl]
    have ht0 : (((0 : Nat) : Int) == 0) = true := rfl
    go_enter Tryz.func29, Tryz.ntmps29
    go_wp2_with fail
    refine c1.mono ?_; rintro e w' ⟨rfl, rfl⟩
    go_wp2_with fail
    refine c2.mono ?_; rintro e w' ⟨rfl, rfl⟩
    go_wp2_with fail
    refine c3.mono ?_; rintro e w' ⟨rfl, rfl⟩
    go_wp2_with fail
    refine c4.mono ?_; rintro e w' ⟨v, hv1, hv2, rfl, hv, rfl⟩
    have HV := Lib.hid hv
    clear hv
    go_wp2_with fail
    go_ret
    refine ⟨ret_num ?_, rfl⟩
    rw [← HV.out]
    exact key_word idx v (by omega) (by omega)
  · rw [if_neg h0]
    have ht0 : ((t : Int) == 0) = false := by simpa using h0
    clear h0
    go_enter Tryz.func29, Tryz.ntmps29
    go_wp2_with fail
    refine c1.mono ?_; rintro e w' ⟨rfl, rfl⟩
    go_wp2_with fail
    refine c2.mono ?_; rintro e w' ⟨rfl, rfl⟩
    go_wp2_with fail
    go_ret
    exact ⟨ret_num (by omega), rfl⟩
end Go.Proofs.YtgoliddhhichgaaGreatDoor
