/- The walk of toNormal. -/
import Derived.Test.YtgoliddhhichgaaGreatDoorSkD
import Derived.Test.YtgoliddhhichgaaGreatDoorSkA
namespace Go.Proofs.YtgoliddhhichgaaGreatDoor
open Go.RowKit Pl

theorem bytesOf_le (a c : List Nat) : (bytesOf a).length ≤ (bytesOf (a ++ c)).length := by rw [bytesOf_append, List.length_append]; omega
/-- The registers that a list of keys makes. -/
def regsD (p : Nat) (L : List Nat) : List Nat := L.foldl (fun R k => upd R (decI p k) (decR p k)) (List.replicate (2 ^ p) 0)
theorem foldl_upd_len (p : Nat) (L : List Nat) : ∀ R : List Nat, (L.foldl (fun R k => upd R (decI p k) (decR p k)) R).length = R.length := by
  induction L with
  | nil => intro R; rfl
  | cons k L ih => intro R; rw [List.foldl_cons, ih, upd_len]
theorem regsD_len (p : Nat) (L : List Nat) : (regsD p L).length = 2 ^ p := by unfold regsD; rw [foldl_upd_len]; simp
theorem regsD_snoc (p : Nat) (L : List Nat) (k : Nat) : regsD p (L ++ [k]) = upd (regsD p L) (decI p k) (decR p k) := by unfold regsD; rw [List.foldl_append]; rfl
theorem decI_lt (p k : Nat) (h10 : p ≤ 10) (hk : k < 4294967296) : decI p k < 2 ^ p := by
  unfold decI
  split
  · rw [Nat.div_lt_iff_lt_mul (Nat.two_pow_pos _), ← Nat.pow_add, show p + (32 - p) = 32 by omega]
    exact hk
  · exact Nat.mod_lt _ (Nat.two_pow_pos _)
theorem decR_lt (p k : Nat) : decR p k < 256 := by
  unfold decR
  split <;> omega
theorem upd_lt (R : List Nat) (i v : Nat) (hv : v < 256) (h : ∀ r, r ∈ R → r < 256) : ∀ r, r ∈ upd R i v → r < 256 := by
  intro r hr
  unfold upd at hr
  rcases List.mem_or_eq_of_mem_set hr with hr | hr
  · exact h r hr
  · rw [hr]
    cases hx : R[i]? with
    | none => simp; omega
    | some x => simp; have := h x (List.mem_of_getElem? hx); omega
theorem regsD_lt (p : Nat) (L : List Nat) : ∀ r, r ∈ regsD p L → r < 256 := by
  suffices ∀ (R : List Nat), (∀ r, r ∈ R → r < 256) → ∀ r, r ∈ L.foldl (fun R k => upd R (decI p k) (decR p k)) R → r < 256 from this _ (fun r hr => by simp at hr; omega)
  induction L with
  | nil => intro R h; exact h
  | cons k L ih => intro R h; rw [List.foldl_cons]; exact ih _ (upd_lt _ _ _ (decR_lt p k) h)
theorem decode_nat (k p : Nat) (w : World) (hk : k < 4294967296) (h4 : 4 ≤ p) (h10 : p ≤ 10) :
    Calls Tryz.prog 63 #[.int .u32 (k : Int), .int .u8 (p : Int), .int .u8 25] w fun e w' => e = .returned (.tuple #[.int .u32 ((decI p k : Nat) : Int), .int .u8 ((decR p k : Nat) : Int)]) ∧ w = w' := by
  have := decodeHash_any (k : Int) (p : Int) w (by omega) (by omega) (by omega) (by omega)
  simpa using this

/-- Memory in the loop of toNormal. -/
def NSt (w3 wr : World) (gr p it bl : Nat) (pre : List Nat) : Prop :=
  Chg [gr] w3 wr ∧ Blk wr gr 5 ((regsD p pre).map vU8).toArray ∧ Blk wr it 99 (itV pre bl) ∧ w3.heap.size ≤ it ∧ gr < w3.heap.size
section
variable {w3 wr w' : World} {gr p it bl : Nat} {pre : List Nat}
theorem NSt.chg (h : NSt w3 wr gr p it bl pre) (hc : Chg [] wr w') : NSt w3 w' gr p it bl pre := by
  obtain ⟨h1, h2, h3, h4, h5⟩ := h
  exact ⟨h1.trans hc (by simp), h2.chg hc (by simp), h3.chg hc (by simp), h4, h5⟩
theorem NSt.it_ (h : NSt w3 wr gr p it bl pre) (hc : Chg [it] wr w') : Chg [gr] w3 w' ∧ Blk w' gr 5 ((regsD p pre).map vU8).toArray := by
  obtain ⟨h1, h2, h3, h4, h5⟩ := h
  exact ⟨h1.trans hc (fun k hk => .inr (by simp at hk; omega)), h2.chg hc (by simp; omega)⟩
theorem NSt.icells (h : NSt w3 wr gr p it bl pre) {i la : Nat} (hi : i = (bytesOf pre).length) (hla : la = pre.getLastD 0) :
    wr.cell? ⟨it, 0, none⟩ = some (.int .i64 (i : Int)) ∧ wr.cell? ⟨it, 1, none⟩ = some (.int .u32 (la : Int)) ∧ wr.cell? ⟨it, 2, none⟩ = some (.pointer (some ⟨bl, 0, none⟩)) := by
  subst hi; subst hla
  have h4 := h.2.2.1
  have c0 := h4.cell 0
  have c1 := h4.cell 1
  have c2 := h4.cell 2
  simp [itV] at c0 c1 c2
  exact ⟨c0, by simpa [List.getLastD_eq_getLast?] using c1, c2⟩
theorem NSt.copy (h : NSt w3 wr gr p it bl pre) : NSt w3 (wr.alloc (.cells (itV pre bl) 99)) gr p wr.heap.size bl pre := by
  obtain ⟨h1, h2, h3, h4, h5⟩ := h
  exact ⟨h1.alloc _, h2.alloc _, Blk.new _ _ _, h1.size, h5⟩
end

/-- What toNormal leaves. -/
def TNo (w : World) (b p : Nat) (Ft T L : List Nat) (e : Ending) (w' : World) : Prop :=
  ∃ F' L', e = .returned (.tuple #[]) ∧ SkAt w' b F' p (.dense (regsD p L')) ∧ (∀ k, k ∈ L' ↔ k ∈ L ∨ k ∈ T) ∧ Chg (b :: Ft) w w' ∧ (∀ k, k ∈ F' → k = b ∨ w.heap.size ≤ k)

set_option maxHeartbeats 4000000 in
set_option maxRecDepth 100000 in
/-- (*Sketch).toNormal. -/
theorem toNormal_any (w : World) (b p : Nat) (al bt : Nat) (Ft T : List Nat) (bl : Nat) (Fl L : List Nat) (h4 : 4 ≤ p) (h10 : p ≤ 10)
    (hb : Blk w b 59 #[.int .u8 (p : Int), .int .u32 ((2 ^ p : Nat) : Int), .float .f64 al, .pointer (some ⟨bt, 0, none⟩), .pointer (some ⟨bl, 0, none⟩), .slice none 0 0]) (hs : SetAt w bt Ft T) (hl : ListAt w bl Fl L)
    (hbt : b ∉ Ft) (hbl : b ∉ Fl) (hL : SInc L) (hTn : T.length < 1000000) (hLn : L.length < 1000000) :
    Calls Tryz.prog 56 #[.pointer (some ⟨b, 0, none⟩)] w (TNo w b p Ft T L) := by
  have c3 := hb.cell 3
  have hlt := hb.lt
  obtain ⟨M, hM⟩ : ∃ M, M = 2 ^ p := ⟨_, rfl⟩
  have hM1 : M ≤ 1024 := by rw [hM]; exact Nat.pow_le_pow_right (n := 2) (by omega) h10
  have HM := Lib.hid hM
  simp at c3
  have X := Lib.hid (And.intro hb (And.intro hs (And.intro hl (And.intro hbt (And.intro hbl hL)))))
  clear hb hs hl hbt hbl hL hM
  go_enter Tryz.func56, Tryz.ntmps56
  go_wp2_with fail
  refine (len53_any _ bt Ft T X.out.2.1).mono ?_
  rintro e wx ⟨rfl, hwx⟩
  have hcx : Chg [] w wx := by rw [← hwx]; exact (Chg.refl _ _).alloc _
  have HCX := Lib.hid hcx
  have c3' := (X.out.1.chg hcx (by simp)).cell 3
  simp at c3'
  clear hcx hwx c3
  by_cases hT : T = []
  · have hT0 : ¬ (0 < T.length) := by simp [hT]
    have hT0' : decide (0 < (T.length : Int)) = false := by simp [hT]
    obtain ⟨wy, hwy⟩ : ∃ wy, wy = wx := ⟨_, rfl⟩
    rw [← hwy]
    obtain ⟨bl', Fl', L', HY⟩ : ∃ bl' Fl' L', Hid (Chg (b :: Ft) w wy ∧ Blk wy b 59 #[.int .u8 (p : Int), .int .u32 (M : Int), .float .f64 al, .pointer (some ⟨bt, 0, none⟩), .pointer (some ⟨bl', 0, none⟩), .slice none 0 0] ∧ ListAt wy bl' Fl' L' ∧ b ∉ Fl' ∧ (∀ k, k ∈ L' ↔ k ∈ L ∨ k ∈ T) ∧ L'.length < 2000000) := by
      refine ⟨bl, Fl, L, Lib.hid ⟨?_, ?_, ?_, X.out.2.2.2.2.1, fun k => by simp [hT], by omega⟩⟩
      · rw [hwy]; exact HCX.out.mono (by simp)
      · rw [hwy, HM.out]; exact X.out.1.chg HCX.out (by simp)
      · rw [hwy]; exact X.out.2.2.1.chg HCX.out (by simp)
    clear HCX hwy hT c3'
    have hby := HY.out.2.1
    have y1 := hby.cell 1
    have y5 := hby.cell 5
    simp at y1 y5
    have hlty := hby.lt
    clear hby
    go_wp2_with (at_make; refine wpMakeN A22 rfl _ rfl _ _ rfl .u32 .u32 M rfl rfl (by omega) (by omega) ?_; intro w2 hr2 hg2; have hc2 : Chg [] wy w2 := (Chg.of_grown hg2 (by simp)); have hb2 := HY.out.2.1.chg hc2 (by simp); have z5 := hb2.cell 5; have zf := hb2.frozen 5; simp at z5; have hb3 := hb2.set_ 5 (.slice (some ⟨wy.heap.size, 0, none⟩) M M); have z4 := hb3.cell 4; simp at z4; have U := Lib.hid (And.intro hr2 (And.intro hc2 hb3)); clear hr2 hg2 hc2 hb2 hb3 y1 y5)
    refine (iter_any _ _).mono ?_
    rintro e w4 ⟨rfl, hc4⟩
    have hit : itV [] bl' = #[.int .i64 0, .int .u32 0, .pointer (some ⟨bl', 0, none⟩)] := rfl
    rw [hit]
    obtain ⟨w3, hw3⟩ : ∃ w3, w3 = w2.setCell ⟨b, 5, none⟩ (.slice (some ⟨wy.heap.size, 0, none⟩) M M) := ⟨_, rfl⟩
    rw [← hw3] at hc4
    have HC4 := Lib.hid hc4
    have HW3 := Lib.hid hw3
    clear hc4 hit z4 z5 zf hw3
    go_wp2_with fail
    generalize hgr : wy.heap.size = gr at U HW3 ⊢
    have hFB : Blk w3 b 59 #[.int .u8 (p : Int), .int .u32 (M : Int), .float .f64 al, .pointer (some ⟨bt, 0, none⟩), .pointer (some ⟨bl', 0, none⟩), .slice (some ⟨gr, 0, none⟩) M M] ∧ ListAt w3 bl' Fl' L' ∧ Chg (b :: Ft) w w3 ∧ gr ∉ Fl' ∧ b ≠ gr ∧ Blk w3 gr 5 ((regsD p []).map vU8).toArray ∧ w.heap.size ≤ gr := by
      obtain ⟨hr2, hc2, hb3⟩ := U.out
      have hw3 := HW3.out
      have hgl := hr2.lt
      have hbg : b ≠ gr := by omega
      refine ⟨by rw [hw3]; simpa using hb3, ?_, ?_, ?_, hbg, ?_, by have := HY.out.1.size; omega⟩
      · rw [hw3]
        exact (HY.out.2.2.1.chg hc2 (by simp)).agree (fun k hk => Below.heap_setCell _ _ _ _ (by rintro rfl; exact HY.out.2.2.2.1 hk))
      · rw [hw3]
        exact (HY.out.1.trans hc2 (by simp)).setCell (.inl (by simp)) _
      · intro h
        have := HY.out.2.2.1.lt gr h
        omega
      · rw [hw3]
        have := hr2.far (p := ⟨b, 5, none⟩) (Ne.symm hbg) (.slice (some ⟨gr, 0, none⟩) M M)
        rw [HM.out] at this ⊢
        simpa [regsD, vU8] using this
    have FB := Lib.hid hFB
    have hN4 : NSt w3 (w4.alloc (.cells #[.int .i64 0, .int .u32 0, .pointer (some ⟨bl', 0, none⟩)] 99)) gr p w4.heap.size bl' [] := by
      have hb := (hFB.2.2.2.2.2.1.chg HC4.out (by simp))
      have hgl := hFB.2.2.2.2.2.1.lt
      exact ⟨(HC4.out.mono (by simp)).alloc _, hb.alloc _, Blk.new _ _ _, HC4.out.size, hgl⟩
    have N4 := Lib.hid hN4
    clear hFB hN4 HC4 hlty U HW3 hgr
    generalize w4.alloc (.cells #[.int .i64 0, .int .u32 0, .pointer (some ⟨bl', 0, none⟩)] 99) = w5 at N4 ⊢
    generalize w4.heap.size = it5 at N4 ⊢
    go_loopw [2] (fun s2 wr => ∃ (it : Nat) (pre rest : List Nat), s2 = .pointer (some ⟨it, 0, none⟩) ∧ Hid (NSt w3 wr gr p it bl' pre ∧ L' = pre ++ rest)) (fun s2 wr => (bytesOf L').length - itAt wr s2)
    case atStart => exact ⟨it5, [], L', rfl, N4.out, rfl⟩
    case round =>
      obtain ⟨it, pre, rest, rfl, hI⟩ := hrel
      obtain ⟨i, hi⟩ : ∃ i, i = (bytesOf pre).length := ⟨_, rfl⟩
      obtain ⟨la, hla⟩ : ∃ la, la = pre.getLastD 0 := ⟨_, rfl⟩
      have HI := Lib.hid (And.intro hi hla)
      have HLW : ∀ W, Chg [gr] w3 W → ListAt W bl' Fl' L' := fun W h => FB.out.2.1.chg h (fun k hk => by simp; rintro rfl; exact FB.out.2.2.2.1 hk)
      have HBW : ∀ W, Chg [gr] w3 W → Blk W b 59 #[.int .u8 (p : Int), .int .u32 (M : Int), .float .f64 al, .pointer (some ⟨bt, 0, none⟩), .pointer (some ⟨bl', 0, none⟩), .slice (some ⟨gr, 0, none⟩) M M] := fun W h => FB.out.1.chg h (by simp; exact FB.out.2.2.2.2.1)
      have HW := Lib.hid (And.intro HLW HBW)
      have hhas : ∀ W, ListAt W bl' Fl' L' → Calls Tryz.prog 59 #[.agg #[.int .i64 (i : Int), .int .u32 (la : Int), .pointer (some ⟨bl', 0, none⟩)]] W fun e w' => e = .returned (.bool (decide (rest ≠ []))) ∧ Chg [] W w' := fun W hW => by
        rw [hi, hla]
        exact hasNext_any W bl' Fl' L' pre rest hW hI.out.2
      have HH := Lib.hid hhas
      have Hwr := Lib.hid hI.out.1
      clear hi hla hhas HLW HBW
      obtain ⟨iawr, ibwr, icwr⟩ := Hwr.out.icells HI.out.1 HI.out.2
      rcases rest with _ | ⟨k, rest⟩
      · have hb0 : decide (([] : List Nat) ≠ []) = false := rfl
        rw [hb0] at HH
        go_wp2_with fail
        refine (HH.out wr (HW.out.1 _ Hwr.out.1)).mono ?_
        rintro e wa ⟨rfl, hc⟩
        have Hwa := Lib.hid (Hwr.out.chg hc)
        clear hc iawr ibwr icwr
        have hba := HW.out.2 _ Hwa.out.1
        have xa3 := hba.cell 3
        have xf3 := hba.frozen 3
        have hba2 := hba.set_ 3 (.pointer none)
        have xa4 := hba2.cell 4
        have xf4 := hba2.frozen 4
        simp at xa3 xa4
        have HBA := Lib.hid (hba2.set_ 4 (.pointer none))
        clear hba hba2
        go_wp2_with fail
        go_end0
        obtain ⟨hgc, hgb, _, _, hgl⟩ := Hwa.out
        have hL0 : pre = L' := by have := hI.out.2; simpa using this.symm
        subst hL0
        refine ⟨b :: [gr], pre, rfl, ⟨al, .slice (some ⟨gr, 0, none⟩) M M, by rw [← HM.out]; simpa using HBA.out, ?_, regsD_len p pre, regsD_lt p pre, rfl, by simp; exact FB.out.2.2.2.2.1⟩, HY.out.2.2.2.2.1, ?_, ?_⟩
        · have h1 := (hgb.far (p := ⟨b, 3, none⟩) (Ne.symm FB.out.2.2.2.2.1) (.pointer none)).far (p := ⟨b, 4, none⟩) (Ne.symm FB.out.2.2.2.2.1) (.pointer none)
          have h2 := Blk.own (n := M) h1 (by rw [List.length_map, regsD_len, HM.out]) (by unfold maxLen; omega)
          unfold Own
          rw [List.length_map, regsD_len, ← HM.out]
          exact h2
        · exact ((FB.out.2.2.1.trans hgc (fun k hk => .inr (by simp at hk; have := FB.out.2.2.2.2.2.2; omega))).setCell (.inl (by simp)) _).setCell (.inl (by simp)) _
        · intro k hk
          simp at hk
          rcases hk with rfl | rfl
          · exact .inl rfl
          · exact .inr FB.out.2.2.2.2.2.2
      · have hb0 : decide ((k :: rest) ≠ []) = true := by simp
        rw [hb0] at HH
        have hk32 : k < 4294967296 := by
          obtain ⟨v, _, _, hlt, _⟩ := FB.out.2.1
          exact hlt k (by rw [hI.out.2]; simp)
        have hLB : (bytesOf L').length < 90000000 := by have := (bytesFrom_len 0 L').2; have := HY.out.2.2.2.2.2; show (bytesFrom 0 L').length < _; omega
        have HLB := Lib.hid hLB
        clear hLB
        go_wp2_with fail
        refine (HH.out wr (HW.out.1 _ Hwr.out.1)).mono ?_
        rintro e wa ⟨rfl, hc⟩
        have Hwa := Lib.hid (Hwr.out.chg hc)
        clear hc iawr ibwr icwr
        have hba := HW.out.2 _ Hwa.out.1
        have xa0 := hba.cell 0
        simp at xa0
        clear hba
        obtain ⟨di, hdi⟩ : ∃ di, di = decI p k := ⟨_, rfl⟩
        obtain ⟨dr, hdr⟩ : ∃ dr, dr = decR p k := ⟨_, rfl⟩
        have hdec : ∀ W, Calls Tryz.prog 63 #[.int .u32 (k : Int), .int .u8 (p : Int), .int .u8 25] W fun e w' => e = .returned (.tuple #[.int .u32 (di : Int), .int .u8 (dr : Int)]) ∧ W = w' := fun W => by rw [hdi, hdr]; exact decode_nat k p W hk32 h4 h10
        have hdi2 : di < M := by rw [hdi, HM.out]; exact decI_lt p k h10 hk32
        have HD := Lib.hid (And.intro hdi hdr)
        have HDEC := Lib.hid hdec
        clear hdi hdr hdec
        go_wp2_with fail
        go_region_held3 (fun w' => w'.cell? ⟨b, 0, none⟩ = some (.int .u8 (p : Int))) (first | exact hKeep | go_keep)
          (first
            | (go_at_call 60; go_must (refine (next_any _ it bl' Fl' L' pre rest k (HW.out.1 wa.drew Hwa.out.1.drew) hI.out.2 (show Blk wa.drew it 99 _ from Hwa.out.2.2.1) (by have := HLB.out; omega)).mono ?_); rintro e wb ⟨rfl, hc, hbi⟩; have hNb := (Hwa.out.chg ((Chg.refl [] wa).drew)).it_ hc; have hKeep : wb.cell? ⟨b, 0, none⟩ = some (.int .u8 (p : Int)) := (by have := (HW.out.2 _ hNb.1).cell 0; simpa using this); have NB := Lib.hid (And.intro hNb hbi); clear hNb hbi hc)
            | (go_at_call 63; refine (HDEC.out _).mono ?_; rintro e w' ⟨rfl, rfl⟩))
        have hc5 := (HW.out.2 _ NB.out.1.1).cell 5
        simp at hc5
        clear hKeep xa0
        go_wp2_with fail
        refine (insert_raw wb b gr M M di dr (regsD p pre) hc5 NB.out.1.2 (by rw [regsD_len, HM.out]) hdi2 (regsD_lt p pre)).mono ?_
        rintro e wc ⟨rfl, hB, hcc⟩
        have HC : Hid (NSt w3 wc gr p it bl' (pre ++ [k])) := by
          obtain ⟨⟨h1, h2⟩, h3⟩ := NB.out
          obtain ⟨_, _, _, h4, h5⟩ := Hwa.out
          refine ⟨h1.trans hcc (fun k hk => .inl hk), ?_, h3.chg hcc (by simp; omega), h4, h5⟩
          rw [regsD_snoc, ← HD.out.1, ← HD.out.2]
          exact hB
        obtain ⟨i2, hi2⟩ : ∃ i2, i2 = (bytesOf (pre ++ [k])).length := ⟨_, rfl⟩
        have HI2 : Hid (i2 = (bytesOf (pre ++ [k])).length ∧ k = (pre ++ [k]).getLastD 0) := Lib.hid ⟨hi2, (getLastD_append_one _ _ _).symm⟩
        clear hB hcc hi2 hc5
        obtain ⟨iawc, ibwc, icwc⟩ := HC.out.icells HI2.out.1 HI2.out.2
        go_wp2_with fail
        go_roundw
        case rel =>
          have hv : itV (pre ++ [k]) bl' = #[.int .i64 (i2 : Int), .int .u32 (k : Int), .pointer (some ⟨bl', 0, none⟩)] := by rw [itV, ← HI2.out.1, ← HI2.out.2]
          have hcp := HC.out.copy
          rw [hv] at hcp
          exact ⟨wc.heap.size, pre ++ [k], rest, rfl, hcp, by rw [hI.out.2]; simp⟩
        case measure =>
          have hv : itV (pre ++ [k]) bl' = #[.int .i64 (i2 : Int), .int .u32 (k : Int), .pointer (some ⟨bl', 0, none⟩)] := by rw [itV, ← HI2.out.1, ← HI2.out.2]
          have e1 := itAt_eq HC.out.copy.2.2.1
          rw [hv] at e1
          have e2 := itAt_eq hI.out.1.2.2.1
          show _ - itAt _ _ < _ - itAt _ _
          rw [e1, e2]
          have hgt : (bytesOf pre).length < (bytesOf (pre ++ [k])).length := (bytesOf_lt_iff pre [k]).2 (by simp)
          have hle : (bytesOf (pre ++ [k])).length ≤ (bytesOf L').length := by have h := bytesOf_le (pre ++ [k]) rest; rwa [show (pre ++ [k]) ++ rest = L' by rw [hI.out.2]; simp] at h
          omega
  · have hT0 : 0 < T.length := by
      rcases Nat.eq_zero_or_pos T.length with h | h
      · exact absurd (List.eq_nil_of_length_eq_zero h) hT
      · exact h
    have HT := Lib.hid hT
    clear hT
    go_wp2_with fail
    refine (mergeSparse_any wx b p al bt Ft T bl Fl L (.slice none 0 0) (X.out.1.chg HCX.out (by simp)) (X.out.2.1.chg HCX.out (by simp)) (X.out.2.2.1.chg HCX.out (by simp)) X.out.2.2.2.1 X.out.2.2.2.2.2 HT.out hTn hLn).mono ?_
    rintro e wy ⟨bl', Fl', L', Ft', rfl, hb', _, hl', _, hm', hn', hc', _, hF', _⟩
    have HY : Hid (Chg (b :: Ft) w wy ∧ Blk wy b 59 #[.int .u8 (p : Int), .int .u32 (M : Int), .float .f64 al, .pointer (some ⟨bt, 0, none⟩), .pointer (some ⟨bl', 0, none⟩), .slice none 0 0] ∧ ListAt wy bl' Fl' L' ∧ b ∉ Fl' ∧ (∀ k, k ∈ L' ↔ k ∈ L ∨ k ∈ T) ∧ L'.length < 2000000) := Lib.hid ⟨(HCX.out.mono (by simp)).trans hc' (fun k hk => .inl hk), by rw [HM.out]; exact hb', hl', fun h => by have := hF' b h; have := HCX.out.size; omega, hm', by omega⟩
    clear hb' hl' hm' hn' hc' hF' HCX c3'
    have hby := HY.out.2.1
    have y1 := hby.cell 1
    have y5 := hby.cell 5
    simp at y1 y5
    have hlty := hby.lt
    clear hby
    go_wp2_with (at_make; refine wpMakeN A22 rfl _ rfl _ _ rfl .u32 .u32 M rfl rfl (by omega) (by omega) ?_; intro w2 hr2 hg2; have hc2 : Chg [] wy w2 := (Chg.of_grown hg2 (by simp)); have hb2 := HY.out.2.1.chg hc2 (by simp); have z5 := hb2.cell 5; have zf := hb2.frozen 5; simp at z5; have hb3 := hb2.set_ 5 (.slice (some ⟨wy.heap.size, 0, none⟩) M M); have z4 := hb3.cell 4; simp at z4; have U := Lib.hid (And.intro hr2 (And.intro hc2 hb3)); clear hr2 hg2 hc2 hb2 hb3 y1 y5)
    refine (iter_any _ _).mono ?_
    rintro e w4 ⟨rfl, hc4⟩
    have hit : itV [] bl' = #[.int .i64 0, .int .u32 0, .pointer (some ⟨bl', 0, none⟩)] := rfl
    rw [hit]
    obtain ⟨w3, hw3⟩ : ∃ w3, w3 = w2.setCell ⟨b, 5, none⟩ (.slice (some ⟨wy.heap.size, 0, none⟩) M M) := ⟨_, rfl⟩
    rw [← hw3] at hc4
    have HC4 := Lib.hid hc4
    have HW3 := Lib.hid hw3
    clear hc4 hit z4 z5 zf hw3
    go_wp2_with fail
    generalize hgr : wy.heap.size = gr at U HW3 ⊢
    have hFB : Blk w3 b 59 #[.int .u8 (p : Int), .int .u32 (M : Int), .float .f64 al, .pointer (some ⟨bt, 0, none⟩), .pointer (some ⟨bl', 0, none⟩), .slice (some ⟨gr, 0, none⟩) M M] ∧ ListAt w3 bl' Fl' L' ∧ Chg (b :: Ft) w w3 ∧ gr ∉ Fl' ∧ b ≠ gr ∧ Blk w3 gr 5 ((regsD p []).map vU8).toArray ∧ w.heap.size ≤ gr := by
      obtain ⟨hr2, hc2, hb3⟩ := U.out
      have hw3 := HW3.out
      have hgl := hr2.lt
      have hbg : b ≠ gr := by omega
      refine ⟨by rw [hw3]; simpa using hb3, ?_, ?_, ?_, hbg, ?_, by have := HY.out.1.size; omega⟩
      · rw [hw3]
        exact (HY.out.2.2.1.chg hc2 (by simp)).agree (fun k hk => Below.heap_setCell _ _ _ _ (by rintro rfl; exact HY.out.2.2.2.1 hk))
      · rw [hw3]
        exact (HY.out.1.trans hc2 (by simp)).setCell (.inl (by simp)) _
      · intro h
        have := HY.out.2.2.1.lt gr h
        omega
      · rw [hw3]
        have := hr2.far (p := ⟨b, 5, none⟩) (Ne.symm hbg) (.slice (some ⟨gr, 0, none⟩) M M)
        rw [HM.out] at this ⊢
        simpa [regsD, vU8] using this
    have FB := Lib.hid hFB
    have hN4 : NSt w3 (w4.alloc (.cells #[.int .i64 0, .int .u32 0, .pointer (some ⟨bl', 0, none⟩)] 99)) gr p w4.heap.size bl' [] := by
      have hb := (hFB.2.2.2.2.2.1.chg HC4.out (by simp))
      have hgl := hFB.2.2.2.2.2.1.lt
      exact ⟨(HC4.out.mono (by simp)).alloc _, hb.alloc _, Blk.new _ _ _, HC4.out.size, hgl⟩
    have N4 := Lib.hid hN4
    clear hFB hN4 HC4 hlty U HW3 hgr
    generalize w4.alloc (.cells #[.int .i64 0, .int .u32 0, .pointer (some ⟨bl', 0, none⟩)] 99) = w5 at N4 ⊢
    generalize w4.heap.size = it5 at N4 ⊢
    go_loopw [2] (fun s2 wr => ∃ (it : Nat) (pre rest : List Nat), s2 = .pointer (some ⟨it, 0, none⟩) ∧ Hid (NSt w3 wr gr p it bl' pre ∧ L' = pre ++ rest)) (fun s2 wr => (bytesOf L').length - itAt wr s2)
    case atStart => exact ⟨it5, [], L', rfl, N4.out, rfl⟩
    case round =>
      obtain ⟨it, pre, rest, rfl, hI⟩ := hrel
      obtain ⟨i, hi⟩ : ∃ i, i = (bytesOf pre).length := ⟨_, rfl⟩
      obtain ⟨la, hla⟩ : ∃ la, la = pre.getLastD 0 := ⟨_, rfl⟩
      have HI := Lib.hid (And.intro hi hla)
      have HLW : ∀ W, Chg [gr] w3 W → ListAt W bl' Fl' L' := fun W h => FB.out.2.1.chg h (fun k hk => by simp; rintro rfl; exact FB.out.2.2.2.1 hk)
      have HBW : ∀ W, Chg [gr] w3 W → Blk W b 59 #[.int .u8 (p : Int), .int .u32 (M : Int), .float .f64 al, .pointer (some ⟨bt, 0, none⟩), .pointer (some ⟨bl', 0, none⟩), .slice (some ⟨gr, 0, none⟩) M M] := fun W h => FB.out.1.chg h (by simp; exact FB.out.2.2.2.2.1)
      have HW := Lib.hid (And.intro HLW HBW)
      have hhas : ∀ W, ListAt W bl' Fl' L' → Calls Tryz.prog 59 #[.agg #[.int .i64 (i : Int), .int .u32 (la : Int), .pointer (some ⟨bl', 0, none⟩)]] W fun e w' => e = .returned (.bool (decide (rest ≠ []))) ∧ Chg [] W w' := fun W hW => by
        rw [hi, hla]
        exact hasNext_any W bl' Fl' L' pre rest hW hI.out.2
      have HH := Lib.hid hhas
      have Hwr := Lib.hid hI.out.1
      clear hi hla hhas HLW HBW
      obtain ⟨iawr, ibwr, icwr⟩ := Hwr.out.icells HI.out.1 HI.out.2
      rcases rest with _ | ⟨k, rest⟩
      · have hb0 : decide (([] : List Nat) ≠ []) = false := rfl
        rw [hb0] at HH
        go_wp2_with fail
        refine (HH.out wr (HW.out.1 _ Hwr.out.1)).mono ?_
        rintro e wa ⟨rfl, hc⟩
        have Hwa := Lib.hid (Hwr.out.chg hc)
        clear hc iawr ibwr icwr
        have hba := HW.out.2 _ Hwa.out.1
        have xa3 := hba.cell 3
        have xf3 := hba.frozen 3
        have hba2 := hba.set_ 3 (.pointer none)
        have xa4 := hba2.cell 4
        have xf4 := hba2.frozen 4
        simp at xa3 xa4
        have HBA := Lib.hid (hba2.set_ 4 (.pointer none))
        clear hba hba2
        go_wp2_with fail
        go_end0
        obtain ⟨hgc, hgb, _, _, hgl⟩ := Hwa.out
        have hL0 : pre = L' := by have := hI.out.2; simpa using this.symm
        subst hL0
        refine ⟨b :: [gr], pre, rfl, ⟨al, .slice (some ⟨gr, 0, none⟩) M M, by rw [← HM.out]; simpa using HBA.out, ?_, regsD_len p pre, regsD_lt p pre, rfl, by simp; exact FB.out.2.2.2.2.1⟩, HY.out.2.2.2.2.1, ?_, ?_⟩
        · have h1 := (hgb.far (p := ⟨b, 3, none⟩) (Ne.symm FB.out.2.2.2.2.1) (.pointer none)).far (p := ⟨b, 4, none⟩) (Ne.symm FB.out.2.2.2.2.1) (.pointer none)
          have h2 := Blk.own (n := M) h1 (by rw [List.length_map, regsD_len, HM.out]) (by unfold maxLen; omega)
          unfold Own
          rw [List.length_map, regsD_len, ← HM.out]
          exact h2
        · exact ((FB.out.2.2.1.trans hgc (fun k hk => .inr (by simp at hk; have := FB.out.2.2.2.2.2.2; omega))).setCell (.inl (by simp)) _).setCell (.inl (by simp)) _
        · intro k hk
          simp at hk
          rcases hk with rfl | rfl
          · exact .inl rfl
          · exact .inr FB.out.2.2.2.2.2.2
      · have hb0 : decide ((k :: rest) ≠ []) = true := by simp
        rw [hb0] at HH
        have hk32 : k < 4294967296 := by
          obtain ⟨v, _, _, hlt, _⟩ := FB.out.2.1
          exact hlt k (by rw [hI.out.2]; simp)
        have hLB : (bytesOf L').length < 90000000 := by have := (bytesFrom_len 0 L').2; have := HY.out.2.2.2.2.2; show (bytesFrom 0 L').length < _; omega
        have HLB := Lib.hid hLB
        clear hLB
        go_wp2_with fail
        refine (HH.out wr (HW.out.1 _ Hwr.out.1)).mono ?_
        rintro e wa ⟨rfl, hc⟩
        have Hwa := Lib.hid (Hwr.out.chg hc)
        clear hc iawr ibwr icwr
        have hba := HW.out.2 _ Hwa.out.1
        have xa0 := hba.cell 0
        simp at xa0
        clear hba
        obtain ⟨di, hdi⟩ : ∃ di, di = decI p k := ⟨_, rfl⟩
        obtain ⟨dr, hdr⟩ : ∃ dr, dr = decR p k := ⟨_, rfl⟩
        have hdec : ∀ W, Calls Tryz.prog 63 #[.int .u32 (k : Int), .int .u8 (p : Int), .int .u8 25] W fun e w' => e = .returned (.tuple #[.int .u32 (di : Int), .int .u8 (dr : Int)]) ∧ W = w' := fun W => by rw [hdi, hdr]; exact decode_nat k p W hk32 h4 h10
        have hdi2 : di < M := by rw [hdi, HM.out]; exact decI_lt p k h10 hk32
        have HD := Lib.hid (And.intro hdi hdr)
        have HDEC := Lib.hid hdec
        clear hdi hdr hdec
        go_wp2_with fail
        go_region_held3 (fun w' => w'.cell? ⟨b, 0, none⟩ = some (.int .u8 (p : Int))) (first | exact hKeep | go_keep)
          (first
            | (go_at_call 60; go_must (refine (next_any _ it bl' Fl' L' pre rest k (HW.out.1 wa.drew Hwa.out.1.drew) hI.out.2 (show Blk wa.drew it 99 _ from Hwa.out.2.2.1) (by have := HLB.out; omega)).mono ?_); rintro e wb ⟨rfl, hc, hbi⟩; have hNb := (Hwa.out.chg ((Chg.refl [] wa).drew)).it_ hc; have hKeep : wb.cell? ⟨b, 0, none⟩ = some (.int .u8 (p : Int)) := (by have := (HW.out.2 _ hNb.1).cell 0; simpa using this); have NB := Lib.hid (And.intro hNb hbi); clear hNb hbi hc)
            | (go_at_call 63; refine (HDEC.out _).mono ?_; rintro e w' ⟨rfl, rfl⟩))
        have hc5 := (HW.out.2 _ NB.out.1.1).cell 5
        simp at hc5
        clear hKeep xa0
        go_wp2_with fail
        refine (insert_raw wb b gr M M di dr (regsD p pre) hc5 NB.out.1.2 (by rw [regsD_len, HM.out]) hdi2 (regsD_lt p pre)).mono ?_
        rintro e wc ⟨rfl, hB, hcc⟩
        have HC : Hid (NSt w3 wc gr p it bl' (pre ++ [k])) := by
          obtain ⟨⟨h1, h2⟩, h3⟩ := NB.out
          obtain ⟨_, _, _, h4, h5⟩ := Hwa.out
          refine ⟨h1.trans hcc (fun k hk => .inl hk), ?_, h3.chg hcc (by simp; omega), h4, h5⟩
          rw [regsD_snoc, ← HD.out.1, ← HD.out.2]
          exact hB
        obtain ⟨i2, hi2⟩ : ∃ i2, i2 = (bytesOf (pre ++ [k])).length := ⟨_, rfl⟩
        have HI2 : Hid (i2 = (bytesOf (pre ++ [k])).length ∧ k = (pre ++ [k]).getLastD 0) := Lib.hid ⟨hi2, (getLastD_append_one _ _ _).symm⟩
        clear hB hcc hi2 hc5
        obtain ⟨iawc, ibwc, icwc⟩ := HC.out.icells HI2.out.1 HI2.out.2
        go_wp2_with fail
        go_roundw
        case rel =>
          have hv : itV (pre ++ [k]) bl' = #[.int .i64 (i2 : Int), .int .u32 (k : Int), .pointer (some ⟨bl', 0, none⟩)] := by rw [itV, ← HI2.out.1, ← HI2.out.2]
          have hcp := HC.out.copy
          rw [hv] at hcp
          exact ⟨wc.heap.size, pre ++ [k], rest, rfl, hcp, by rw [hI.out.2]; simp⟩
        case measure =>
          have hv : itV (pre ++ [k]) bl' = #[.int .i64 (i2 : Int), .int .u32 (k : Int), .pointer (some ⟨bl', 0, none⟩)] := by rw [itV, ← HI2.out.1, ← HI2.out.2]
          have e1 := itAt_eq HC.out.copy.2.2.1
          rw [hv] at e1
          have e2 := itAt_eq hI.out.1.2.2.1
          show _ - itAt _ _ < _ - itAt _ _
          rw [e1, e2]
          have hgt : (bytesOf pre).length < (bytesOf (pre ++ [k])).length := (bytesOf_lt_iff pre [k]).2 (by simp)
          have hle : (bytesOf (pre ++ [k])).length ≤ (bytesOf L').length := by have h := bytesOf_le (pre ++ [k]) rest; rwa [show (pre ++ [k]) ++ rest = L' by rw [hI.out.2]; simp] at h
          omega
end Go.Proofs.YtgoliddhhichgaaGreatDoor
