/- The walks of varints. -/
import Derived.Test.YtgoliddhhichgaaGreatDoorVint
import Derived.Test.YtgoliddhhichgaaGreatDoorLaws
import Derived.Test.YtgoliddhhichgaaGreatDoorNum
import Derived.Test.YtgoliddhhichgaaGreatDoorSetD
namespace Go.Proofs.YtgoliddhhichgaaGreatDoor
open Go.RowKit Pl

/-- A row of bytes. -/
abbrev Bys (w : World) (v : Value) (xs : List Nat) : Prop := w.ownsRow 0 5 1 v xs.length (xs.map vU8)
theorem Own.bys {w : World} {v : Value} {xs : List Nat} (h : Own w 5 v (xs.map vU8)) : Bys w v xs := by
  unfold Own at h
  rwa [List.length_map] at h
theorem Bys.own {w : World} {v : Value} {xs : List Nat} (h : Bys w v xs) : Own w 5 v (xs.map vU8) := by
  unfold Own
  rwa [List.length_map]
theorem Bys.cell {w : World} {v : Value} {xs : List Nat} (h : Bys w v xs) {j : Nat} (hj : j < xs.length) : ∃ g c, v = .slice (some ⟨g, 0, none⟩) xs.length c ∧ w.cell? ⟨g, j, none⟩ = some (vU8 xs[j]) := by
  rcases own_form h with ⟨_, hn, _⟩ | ⟨g, c, rfl, _, _, hc, _, _⟩
  · omega
  · exact ⟨g, c, rfl, hc j _ (by rw [List.getElem?_map, List.getElem?_eq_getElem hj]; rfl)⟩

theorem and_u32c (a b : Nat) (ha : a < 4294967296) (hb : b < 4294967296) : bits BinOp.and IntKind.u32 (a : Int) (b : Int) = ((a &&& b : Nat) : Int) := u32_and_nat a b ha hb
theorem and_hi (x : Nat) (hx : x < 4294967296) : (bits BinOp.and IntKind.u32 (x : Int) 4294967168 != 0) = decide (128 ≤ x) := by
  have h := u32_and_nat x 4294967168 hx (by omega)
  rw [show ((4294967168 : Nat) : Int) = 4294967168 from rfl] at h
  rw [h]
  have e : x &&& 4294967168 = x / 128 * 128 := by
    have h1 : x &&& 4294967168 = (x &&& (4294967295 - 127)) := rfl
    apply Nat.eq_of_testBit_eq
    intro i
    rw [Nat.testBit_and]
    have h2 : (4294967168 : Nat) = 33554431 * 2 ^ 7 := by decide
    have h3 : x / 128 * 128 = (x / 2 ^ 7) * 2 ^ 7 := rfl
    rw [h2, h3, Nat.testBit_mul_two_pow, Nat.testBit_mul_two_pow]
    by_cases hi : 7 ≤ i
    · simp only [hi, decide_true, Bool.true_and]
      rw [Nat.testBit_div_two_pow, show i - 7 + 7 = i by omega]
      by_cases h32 : i < 32
      · have : Nat.testBit 33554431 (i - 7) = true := by
          rw [show (33554431 : Nat) = 2 ^ 25 - 1 by decide, Nat.testBit_two_pow_sub_one]
          simp; omega
        rw [this, Bool.and_true]
      · rw [Nat.testBit_lt_two_pow (Nat.lt_of_lt_of_le hx (by rw [show (4294967296 : Nat) = 2 ^ 32 by decide]; exact Nat.pow_le_pow_right (by omega) (by omega)))]
        rfl
    · simp [hi]
  rw [e, Bool.eq_iff_iff]
  simp only [bne_iff_ne, ne_eq, decide_eq_true_eq]
  omega

set_option maxHeartbeats 1000000 in
set_option maxRecDepth 100000 in
/-- (variableLengthList).Append. -/
theorem vappend_any (w : World) (v : Value) (xs : List Nat) (x : Nat) (h : Bys w v xs) (hx : x < 4294967296) (hn : xs.length < 100000000) :
    Calls Tryz.prog 47 #[v, .int .u32 (x : Int)] w fun e w' => ∃ g c, e = .returned (.slice (some ⟨g, 0, none⟩) (xs ++ vint x).length c) ∧ Bys w' (.slice (some ⟨g, 0, none⟩) (xs ++ vint x).length c) (xs ++ vint x) ∧
      Chg v.ownBlock.toList w w' ∧ (v.ownBlock = some g ∨ w.heap.size ≤ g) := by
  have H := Lib.hid h
  have hx5 := vint_le5 x hx
  have len_of : ∀ (ys : List Nat) (y : Nat), ys ++ vint y = xs ++ vint x → ys.length ≤ xs.length + 4 := fun ys y e => by
    have e2 := congrArg List.length e
    have := vint_pos y
    simp only [List.length_append] at e2
    omega
  have HL := Lib.hid len_of
  have HX := Lib.hid hx5
  clear len_of h hx5
  go_enter Tryz.func47, Tryz.ntmps47
  go_wp2
  go_loopw [0, 1] (fun s0 s1 wr => ∃ (y : Nat) (ys : List Nat), s1 = .int .u32 (y : Int) ∧ y < 4294967296 ∧ ys.length ≤ xs.length + 4 ∧ Hid (ys ++ vint y = xs ++ vint x ∧ Bys wr s0 ys ∧ Chg v.ownBlock.toList w wr ∧ (∀ g, s0.ownBlock = some g → v.ownBlock = some g ∨ w.heap.size ≤ g))) (fun _ s1 _ => (intOf s1).toNat)
  case atStart => exact ⟨x, xs, rfl, hx, by omega, rfl, H.out, Chg.refl _ _, fun g hg => .inl hg⟩
  case round =>
    obtain ⟨y, ys, rfl, hy, hl, hI⟩ := hrel
    have hand := and_hi y hy
    obtain ⟨A, c, rfl, hc⟩ := own_slice hI.out.2.1
    have hb := hI.out.2.1
    by_cases hbig : 128 ≤ y
    · rw [decide_eq_true hbig] at hand
      have e1 : bits BinOp.or IntKind.u32 (bits BinOp.and IntKind.u32 (y : Int) 127) 128 = ((y % 128 + 128 : Nat) : Int) := by
        have h1 := u32_and_nat y 127 hy (by omega)
        rw [nat_mask7] at h1
        have h2 := u32_or_nat (y % 128) 128 (by omega) (by omega)
        rw [Nat.or_comm, nat_join 7 _ _ (by omega) (by omega)] at h2
        rw [show ((127 : Nat) : Int) = 127 from rfl] at h1
        rw [show ((128 : Nat) : Int) = 128 from rfl] at h2
        rw [h1, h2]
        omega
      go_wp2_with (first
        | (at_builtin; refine wpApp A89 _ rfl _ _ rfl (.slice A ys.length c) _ (ys.map vU8) rfl (hb.alloc _) ⟨wr.heap.size, 0, none⟩ 1 1 [vU8 (y % 128 + 128)] rfl rfl (cell_one_new _ _ _) (by simp [Value.oneCell', vU8]) (by omega) (by omega) (by omega) ?_; intro g2 cap2 w2 ho2 hg2 hat2 _))
      go_roundw
      case rel =>
        obtain ⟨heq, _, hc1, hloc⟩ := hI.out
        have heq2 : (ys ++ [y % 128 + 128]) ++ vint (y / 128) = xs ++ vint x := by
          rw [← heq, vint_big (show ¬ y < 128 by omega)]
          simp
        have hsz := hc1.size
        refine ⟨y / 128, ys ++ [y % 128 + 128], by simp, by omega, HL.out _ _ heq2, heq2, by unfold Bys; simpa using ho2, ?_, ?_⟩
        · exact (hc1.alloc _).grown hg2 (fun g hg => (hloc g hg).imp (fun h => by simpa using h) id)
        · intro g hg
          simp only [Value.ownBlock, Option.some.injEq] at hg
          subst hg
          rcases hat2 with e | e
          · exact hloc _ e
          · simp at e; exact .inr (by omega)
      case measure => simp [intOf]; omega
    · rw [decide_eq_false hbig] at hand
      have e1 : bits BinOp.and IntKind.u32 (y : Int) 127 = (y : Int) := by
        have h1 := u32_and_nat y 127 hy (by omega)
        rw [nat_mask7] at h1
        rw [show ((127 : Nat) : Int) = 127 from rfl] at h1
        rw [h1]
        omega
      go_wp2_with (first
        | (at_builtin; refine wpApp A89 _ rfl _ _ rfl (.slice A ys.length c) _ (ys.map vU8) rfl (hb.alloc _) ⟨wr.heap.size, 0, none⟩ 1 1 [vU8 y] rfl rfl (cell_one_new _ _ _) (by simp [Value.oneCell', vU8]) (by omega) (by omega) (by omega) ?_; intro g2 cap2 w2 ho2 hg2 hat2 _))
      go_ret
      obtain ⟨heq, _, hc1, hloc⟩ := hI.out
      rw [vint_small (show y < 128 by omega)] at heq
      have hsz := hc1.size
      rw [← heq]
      refine ⟨g2, cap2, by simp, by unfold Bys; simpa using ho2, ?_, ?_⟩
      · exact (hc1.alloc _).grown hg2 (fun g hg => (hloc g hg).imp (fun h => by simpa using h) id)
      · rcases hat2 with e | e
        · exact hloc _ e
        · simp at e; exact .inr (by omega)

theorem and_hi8 (x : Nat) (hx : x < 256) : x &&& 128 = x / 128 * 128 := by
  have : ∀ x : Fin 256, x.val &&& 128 = x.val / 128 * 128 := by decide +kernel
  exact this ⟨x, hx⟩
/-! ### Reading one -/
/-- The bytes of a number, read from the t-th on. -/
theorem vint_at (X t : Nat) : ∀ (rest : List Nat), t < (vint X).length → ((vint X ++ rest)[t]?.getD 0 = if t + 1 < (vint X).length then X / 128 ^ t % 128 + 128 else X / 128 ^ t) ∧ (t + 1 < (vint X).length ↔ 128 ≤ X / 128 ^ t) := by
  induction t generalizing X with
  | zero =>
    intro rest ht
    by_cases h : X < 128
    · rw [vint_small h]; simp; omega
    · rw [vint_big h]
      have := vint_pos (X / 128)
      simp only [List.length_cons, Nat.pow_zero, Nat.div_one, List.cons_append, List.getElem?_cons_zero, Option.getD_some]
      rw [if_pos (by omega)]
      exact ⟨rfl, by omega⟩
  | succ t ih =>
    intro rest ht
    by_cases h : X < 128
    · rw [vint_small h] at ht; simp at ht
    · rw [vint_big h] at ht ⊢
      simp only [List.length_cons] at ht ⊢
      have h2 := ih (X / 128) rest (by omega)
      have e : X / 128 ^ (t + 1) = X / 128 / 128 ^ t := by rw [Nat.pow_succ, Nat.mul_comm, Nat.div_div_eq_div_mul]
      rw [e]
      simp only [List.cons_append, List.getElem?_cons_succ]
      constructor
      · rw [h2.1]
        by_cases hc : t + 1 < (vint (X / 128)).length
        · rw [if_pos hc, if_pos (by omega)]
        · rw [if_neg hc, if_neg (by omega)]
      · rw [← h2.2]; omega

set_option maxHeartbeats 1000000 in
set_option maxRecDepth 100000 in
/-- (variableLengthList).decode. -/
theorem vdecode_any (w : World) (v : Value) (xs : List Nat) (i X : Nat) (rest : List Nat) (h : Bys w v xs) (hd : xs.drop i = vint X ++ rest) (hX : X < 4294967296) (hn : xs.length < 100000000) :
    Calls Tryz.prog 70 #[v, .int .i64 (i : Int)] w fun e w' => e = .returned (.tuple #[.int .u32 (X : Int), .int .i64 ((i + (vint X).length : Nat) : Int), .bool true]) ∧ w = w' := by
  have hx5 := vint_le5 X hX
  have hp := vint_pos X
  have hlen : i + (vint X).length ≤ xs.length := by
    have := congrArg List.length hd
    simp only [List.length_drop, List.length_append] at this
    omega
  have hat : ∀ t, t < (vint X).length → xs[i + t]?.getD 0 = (vint X ++ rest)[t]?.getD 0 := fun t _ => by rw [← hd, List.getElem?_drop]
  obtain ⟨L, hL⟩ : ∃ L, L = (vint X).length := ⟨_, rfl⟩
  rw [← hL] at hlen hat hx5 hp ⊢
  rcases own_form h with ⟨_, h0, _⟩ | ⟨g, c, rfl, hc, _, hcell, _, _⟩
  · omega
  have hcell2 : ∀ t, t < L → w.cell? ⟨g, i + t, none⟩ = some (.int .u8 (((vint X ++ rest)[t]?.getD 0 : Nat) : Int)) := fun t ht => by
    refine hcell (i + t) _ ?_
    rw [List.getElem?_map]
    have hlt : i + t < xs.length := by omega
    have := hat t ht
    rw [List.getElem?_eq_getElem hlt] at this
    rw [List.getElem?_eq_getElem hlt, ← this]
    rfl
  have hval : ∀ t, t < L → ((vint X ++ rest)[t]?.getD 0 = if t + 1 < L then X / 128 ^ t % 128 + 128 else X / 128 ^ t) ∧ (t + 1 < L ↔ 128 ≤ X / 128 ^ t) := fun t ht => by
    have := vint_at X t rest (by omega)
    rwa [← hL] at this
  have HC := Lib.hid hcell2
  have HV := Lib.hid hval
  clear hcell2 hval hcell hat hd h hL
  go_enter Tryz.func70, Tryz.ntmps70
  go_wp2
  go_loop [4, 7] (fun s4 s7 => ∃ t : Nat, t < L ∧ s4 = .int .u32 ((X % 128 ^ t : Nat) : Int) ∧ s7 = .int .i64 ((i + t : Nat) : Int)) (fun _ s7 => i + L - (intOf s7).toNat)
  case atStart => exact ⟨0, by omega, by simp [Nat.mod_one], by simp⟩
  case round =>
    obtain ⟨t, ht, rfl, rfl⟩ := hrel
    have hc1 := HC.out t ht
    obtain ⟨hv1, hv2⟩ := HV.out t ht
    obtain ⟨d, hd⟩ : ∃ d, d = (vint X ++ rest)[t]?.getD 0 := ⟨_, rfl⟩
    rw [← hd] at hc1 hv1
    clear hd
    have hX1 : X / 128 ^ t < 4294967296 := Nat.lt_of_le_of_lt (Nat.div_le_self _ _) hX
    have hp2 : X / 128 ^ t * 128 ^ t + X % 128 ^ t = X := by rw [Nat.mul_comm]; exact Nat.div_add_mod _ _
    have hmod : X % 128 ^ t < 128 ^ t := Nat.mod_lt _ (Nat.pow_pos (by omega))
    have hpow : 128 ^ t = 2 ^ (7 * t) := by rw [show (128 : Nat) = 2 ^ 7 by decide, ← Nat.pow_mul]
    have hpow5 : 128 ^ t ≤ 268435456 := by
      have : 128 ^ t ≤ 128 ^ 4 := Nat.pow_le_pow_right (by omega) (by omega)
      omega
    have join : ∀ d, d * 128 ^ t ≤ X → bits BinOp.or IntKind.u32 ((X : Int) % 128 ^ t) ((d : Int) * 2 ^ (t * 7) % 4294967296) = ((X % 128 ^ t + d * 128 ^ t : Nat) : Int) := fun d hd => by
      have e1 : ((X : Int) % 128 ^ t) = ((X % 128 ^ t : Nat) : Int) := by simp
      have e2 : ((d : Int) * 2 ^ (t * 7) % 4294967296) = ((d * 128 ^ t : Nat) : Int) := by
        have : (d : Int) * 2 ^ (t * 7) = ((d * 128 ^ t : Nat) : Int) := by rw [hpow, Nat.mul_comm 7 t]; simp
        rw [this]
        omega
      rw [e1, e2, u32_or_nat _ _ (by omega) (by omega)]
      have : X % 128 ^ t < 2 ^ (7 * t) := by rw [← hpow]; exact hmod
      rw [hpow] at this ⊢
      rw [Nat.or_comm, Nat.mul_comm d, ← Nat.two_pow_add_eq_or_of_lt this, Nat.add_comm]
    by_cases hlast : t + 1 < L
    · rw [if_pos hlast] at hv1
      have hdb : 128 ≤ d ∧ d < 256 := by omega
      have hd2 : bits BinOp.and IntKind.u8 (d : Int) 127 = ((d % 128 : Nat) : Int) := by
        rw [show (127 : Int) = ((127 : Nat) : Int) from rfl, u8_and_nat d 127 (by omega) (by omega), nat_mask7]
      have hd1 : (bits BinOp.and IntKind.u8 (d : Int) 128 != 0) = true := by
        rw [show (128 : Int) = ((128 : Nat) : Int) from rfl, u8_and_nat d 128 (by omega) (by omega), and_hi8 d (by omega)]
        rw [bne_iff_ne]
        omega
      have Y := Lib.hid (And.intro hv1 (And.intro hp2 (And.intro hmod (And.intro hpow5 join))))
      clear hv1 hv2 hX1 hp2 hmod hpow hpow5 join
      go_wp2
      go_round
      case rel =>
        obtain ⟨hv1, hp2, hmod, hpow5, join⟩ := Y.out
        refine ⟨t + 1, hlast, ?_, by congr 1⟩
        have hm : d % 128 = X / 128 ^ t % 128 := by omega
        have hle : d % 128 * 128 ^ t ≤ X := by
          rw [hm]
          calc X / 128 ^ t % 128 * 128 ^ t ≤ X / 128 ^ t * 128 ^ t := Nat.mul_le_mul_right _ (Nat.mod_le _ _)
            _ ≤ X := by omega
        have hj := join (d % 128) hle
        rw [show (((d % 128 : Nat) : Int)) = (d : Int) % 128 by simp] at hj
        rw [hj, hm, Nat.pow_succ, Nat.mod_mul]
        congr 2
        rw [Nat.mul_comm]
      case measure => simp [intOf]; omega
    · rw [if_neg hlast] at hv1
      have hL1 : t + 1 = L := by omega
      have hdb : d < 128 := by
        have : ¬ 128 ≤ X / 128 ^ t := fun h => hlast (hv2.2 h)
        omega
      have hd1 : (bits BinOp.and IntKind.u8 (d : Int) 128 != 0) = false := by
        rw [show (128 : Int) = ((128 : Nat) : Int) from rfl, u8_and_nat d 128 (by omega) (by omega), and_hi8 d (by omega)]
        rw [bne_eq_false_iff_eq]
        omega
      have hd0 : t = 0 ∨ 0 < d := by
        rcases Nat.eq_zero_or_pos t with h0 | h0
        · exact .inl h0
        · obtain ⟨s, rfl⟩ : ∃ s, t = s + 1 := ⟨t - 1, by omega⟩
          have := (HV.out s (by omega)).2.1 (by omega)
          rw [Nat.pow_succ, Nat.mul_comm, ← Nat.div_div_eq_div_mul, Nat.div_div_eq_div_mul, Nat.mul_comm, ← Nat.div_div_eq_div_mul] at hv1
          omega
      have hd15 : t = 4 → d ≤ 15 := by rintro rfl; omega
      have hj : bits BinOp.or IntKind.u32 ((X : Int) % 128 ^ t) ((d : Int) * 2 ^ (t * 7) % 4294967296) = (X : Int) := by
        rw [join d (by rw [hv1]; omega), hv1]
        omega
      have Y := Lib.hid hj
      clear hv1 hv2 hX1 hp2 hmod hpow hpow5 join hj
      have ht5 : t = 0 ∨ (0 < t ∧ t < 4) ∨ (3 < t ∧ t < 5) := by omega
      rcases ht5 with h0 | h0 | h0
      · subst h0
        simp only [Nat.add_zero] at hc1
        go_wp2
        refine bodyPost_ret (v := .tuple #[.int .u32 (X : Int), .int .i64 ((i : Int) + L), .bool true]) ?_ rfl ⟨rfl, rfl⟩
        have hy := Y.out
        have e : ((d : Int) * 2 ^ (0 * 7) % 4294967296) = d := by
          simp only [Nat.zero_mul, Int.pow_zero, Int.mul_one]
          omega
        have e0 : (X : Int) % 128 ^ 0 = 0 := by simp
        rw [e, e0] at hy
        simp [results, Tryz.results70, go_sem, hy]
        omega
      · have hd0 := hd0.resolve_left (by omega)
        go_wp2
        · exfalso
          rename_i hq hh
          simp at hq
          omega
        · refine bodyPost_ret (v := .tuple #[.int .u32 (X : Int), .int .i64 ((i : Int) + L), .bool true]) ?_ rfl ⟨rfl, rfl⟩
          simp [results, Tryz.results70, go_sem, Y.out]
          omega
      · have hd0 := hd0.resolve_left (by omega)
        have := hd15 (by omega)
        go_wp2
        · exfalso
          rename_i hq hh
          simp at hq
          omega
        · refine bodyPost_ret (v := .tuple #[.int .u32 (X : Int), .int .i64 ((i : Int) + L), .bool true]) ?_ rfl ⟨rfl, rfl⟩
          simp [results, Tryz.results70, go_sem, Y.out]
          omega
end Go.Proofs.YtgoliddhhichgaaGreatDoor
