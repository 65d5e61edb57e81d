/- The walks of impl.PutVarint at 1 and of laws.FnScriptWhole. -/
import Derived.Test.YtgoliddhhichgaaGreatDoorPlB
import Derived.Test.YtgoliddhhichgaaGreatDoorSpF
import Derived.Test.YtgoliddhhichgaaGreatDoorSpD
import Derived.Test.YtgoliddhhichgaaGreatDoorVarint
import Derived.Deep.RegionHeld3
namespace Go.Proofs.YtgoliddhhichgaaGreatDoor
open Go.RowKit Pl

def PvOut (w : World) (e : Ending) (w' : World) : Prop := ∃ g c, e = .returned (.slice (some ⟨g, 0, none⟩) 1 c) ∧ Chg [] w w'

set_option maxHeartbeats 400000 in
theorem zzputv_any (w : World) : Calls Tryz.prog 21 #[.int .u32 1] w (PvOut w) := by
  have H : Hid (Calls Tryz.prog 47 #[.slice none 0 0, .int .u32 1] w fun e w' => ∃ g c, e = .returned (.slice (some ⟨g, 0, none⟩) 1 c) ∧ Chg [] w w') := by
    have h := vappend_any w (.slice none 0 0) [] 1 ⟨rfl, .inl ⟨rfl, rfl⟩⟩ (by omega) (by simp)
    refine Lib.hid (h.mono ?_)
    rintro e w' ⟨g, c, rfl, _, hc, _⟩
    have hv : ([] ++ vint 1).length = 1 := by unfold vint; simp
    exact ⟨g, c, by rw [hv], hc⟩
  go_enter Tryz.func21, Tryz.ntmps21
  go_wp2_with fail
  refine H.out.mono ?_
  rintro e w' ⟨g, c, rfl, hc⟩
  have HC := Lib.hid hc
  clear hc
  go_wp2_with fail
  go_ret
  exact ⟨g, c, rfl, HC.out⟩
set_option maxHeartbeats 400000 in
theorem putv_any (w : World) : Calls Tryz.prog 9 #[.int .u32 1] w (PvOut w) := by
  have H := Lib.hid (zzputv_any w)
  go_enter Tryz.func9, Tryz.ntmps9
  go_wp2_with fail
  refine H.out.mono ?_
  rintro e w' ⟨g, c, rfl, hc⟩
  have HC := Lib.hid hc
  clear hc
  go_wp2_with fail
  go_ret
  exact ⟨g, c, rfl, HC.out⟩

theorem index30 (w : World) (v0 v1 v2 : Option Addr × Nat × Nat) (m : Nat) (hm : m < 3) : (Instr.index 30 (.agg #[.slice v0.1 v0.2.1 v0.2.2, .slice v1.1 v1.2.1 v1.2.2, .slice v2.1 v2.2.1 v2.2.2]) (.int .i64 (m : Int))).run Tryz.prog w = .ok ((#[.slice v0.1 v0.2.1 v0.2.2, .slice v1.1 v1.2.1 v1.2.2, .slice v2.1 v2.2.1 v2.2.2] : Array Value)[m]!) w := by
  have hs : (Tryz.prog.info? 29).map (·.size) = some 1 := by kernel_rfl
  have h0 : (0 : Int) ≤ m := by omega
  have h1 : (m : Int) < 3 := by omega
  cases hi : Tryz.prog.info? 29 with
  | none => rw [hi] at hs; cases hs
  | some i =>
    rw [hi] at hs
    have hs' : i.size = 1 := by simpa using hs
    rcases lt3 hm with rfl | rfl | rfl <;> simp [Instr.index, run_underlying Tryz.underlying30, asIntOf, sizeOf, typeInfo, hi, hs', go_sem]
theorem steps_form {w : World} {v : Value} {L : List St} (h : Steps w v L) : ∃ A n c, v = .slice A n c ∧ Hid (n = L.length ∧ w.ownsRow 0 40 4 (.slice A n c) n (L.flatMap stc)) := by
  rcases h.2 with ⟨rfl, h0⟩ | ⟨g, cap, cur, rfl, _⟩
  · refine ⟨none, 0, 0, rfl, Lib.hid ⟨h0.symm, ?_⟩⟩
    have h1 : w.ownsRow 0 40 4 (.slice none 0 0) L.length (L.flatMap stc) := h
    rwa [h0] at h1
  · exact ⟨_, _, _, rfl, Lib.hid ⟨rfl, h⟩⟩

def blkOf : Value → Nat
  | .slice (some a) _ _ => a.block
  | _ => 0
def adOf : Value → Option Addr
  | .slice a _ _ => a
  | _ => none
def capOf : Value → Nat
  | .slice _ _ c => c
  | _ => 0

/-- impl.Play's result, its slices' forms shown. -/
def PiOut2 (w : World) (p : Nat) (L : List St) (e : Ending) (w' : World) : Prop :=
  ∃ (G C : Nat → Nat) (R : Nat → List Nat), e = .returned (.tuple #[.agg #[.slice (some ⟨G 0, 0, none⟩) (2 ^ p) (C 0), .slice (some ⟨G 1, 0, none⟩) (2 ^ p) (C 1), .slice (some ⟨G 2, 0, none⟩) (2 ^ p) (C 2)], .bool true]) ∧
    (∀ i, i < 3 → w'.ownsRow 0 5 1 (.slice (some ⟨G i, 0, none⟩) (2 ^ p) (C i)) (2 ^ p) ((R i).map vU8)) ∧ (∀ i, i < 3 → (R i).length = 2 ^ p) ∧ (∀ i, i < 3 → IsReg p (playH L i) (R i)) ∧ Chg [] w w'
theorem PiOut.two {w w' : World} {p : Nat} {L : List St} {e : Ending} (h : PiOut w p L e w') : PiOut2 w p L e w' := by
  obtain ⟨V, R, rfl, ho, hl, hr, hc⟩ := h
  have key : ∀ i, i < 3 → V i = .slice (some ⟨blkOf (V i), 0, none⟩) (2 ^ p) (capOf (V i)) := fun i hi => by
    rcases own_form (ho i hi) with ⟨_, h0, _⟩ | ⟨g, cap, h0, _⟩
    · have := Nat.two_pow_pos p; omega
    · rw [h0]; rfl
  refine ⟨fun i => blkOf (V i), fun i => capOf (V i), R, ?_, fun i hi => ?_, hl, hr, hc⟩
  · show Ending.returned (.tuple #[.agg #[V 0, V 1, V 2], .bool true]) = _
    rw [← key 0 (by omega), ← key 1 (by omega), ← key 2 (by omega)]
  · rw [← key i hi]
    exact ho i hi

/-- spec.Play's result, its slices' forms shown. -/
def PsOut2 (w : World) (L : List St) (e : Ending) (w' : World) : Prop :=
  ∃ (D : Nat → Option Addr) (N C : Nat → Nat) (LL : Nat → List Nat), e = .returned (.agg #[.slice (D 0) (N 0) (C 0), .slice (D 1) (N 1) (C 1), .slice (D 2) (N 2) (C 2)]) ∧
    (∀ i, i < 3 → w'.ownsRow 0 38 1 (.slice (D i) (N i) (C i)) (N i) ((LL i).map vU64)) ∧ (∀ i, i < 3 → N i = (LL i).length) ∧ (∀ i, i < 3 → (LL i).length ≤ 1000000) ∧ (∀ i, i < 3 → ∀ x, x ∈ LL i → x < 18446744073709551616) ∧ (∀ i, i < 3 → ∀ x, x ∈ LL i ↔ playH L i x) ∧ Chg [] w w'
theorem PsOut.two {w w' : World} {L : List St} {e : Ending} (h : PsOut w L e w') : PsOut2 w L e w' := by
  obtain ⟨V, LL, rfl, ho, hl, h6, hs, hc⟩ := h
  have key : ∀ i, i < 3 → V i = .slice (adOf (V i)) (LL i).length (capOf (V i)) := fun i hi => by
    obtain ⟨A, c, h0, _⟩ := own_slice (ho i hi)
    rw [h0]; rfl
  refine ⟨fun i => adOf (V i), fun i => (LL i).length, fun i => capOf (V i), LL, ?_, fun i hi => ?_, fun _ _ => rfl, hl, h6, hs, hc⟩
  · show Ending.returned (.agg #[V 0, V 1, V 2]) = _
    rw [← key 0 (by omega), ← key 1 (by omega), ← key 2 (by omega)]
  · rw [← key i hi]
    exact ho i hi

/-- The data handed in. -/
def DataIn (w : World) (A : Option Addr) (n cc : Nat) : Prop :=
  (A = none ∧ n = 0 ∧ cc = 0) ∨ ∃ ad, A = some ad ∧ ∀ i, i < n → ∃ r : Nat, r < 256 ∧ w.cell? (ad.add i) = some (.int .u8 (r : Int))
def ScOut (w : World) (e : Ending) (w' : World) : Prop := ∃ v L, e = .returned v ∧ Steps w' v L ∧ L.length ≤ 5120 ∧ (∀ s, s ∈ L → GoodSt s) ∧ Chg [] w w'
theorem scr_any (w : World) (A : Option Addr) (n cc : Nat) (h : DataIn w A n cc) : Calls Tryz.prog 4 #[.slice A n cc] w (ScOut w) := by
  rcases h with ⟨rfl, rfl, rfl⟩ | ⟨ad, rfl, hd⟩
  · exact (script_nil w).mono fun e w' ⟨v, L, a, b, c, d, e, _⟩ => ⟨v, L, a, b, c, d, e⟩
  · exact (script_any w ad n cc hd).mono fun e w' ⟨v, L, a, b, c, d, e, _⟩ => ⟨v, L, a, b, c, d, e⟩

set_option maxHeartbeats 4000000 in
set_option maxRecDepth 100000 in
/-- laws.FnScriptWhole. -/
theorem whole_any (w : World) (A : Option Addr) (n cc p0 : Nat) (s0 s1 s2 : Bool) (hp0 : p0 < 256) (hd : DataIn w A n cc) :
    Calls Tryz.prog 3 #[.int .u8 (p0 : Int), .bool s0, .bool s1, .bool s2, .slice A n cc] w fun e w' => e = .returned (.bool true) ∧ Chg [] w w' := by
  have HSc := Lib.hid (scr_any w A n cc hd)
  clear hd
  obtain ⟨r, hr7, hr⟩ : ∃ r : Nat, r < 7 ∧ Int.tmod (p0 : Int) 7 = (r : Int) := ⟨p0 % 7, by omega, by rw [Int.tmod_eq_emod_of_nonneg (by omega)]; omega⟩
  obtain ⟨p, h4, h10, hp⟩ : ∃ p : Nat, 4 ≤ p ∧ p ≤ 10 ∧ 4 + (r : Int) = (p : Int) := ⟨4 + r, by omega, by omega, by omega⟩
  have hpw : IntKind.u8.wrap (p : Int) = (p : Int) := by rw [IntKind.wrap_u8]; omega
  by_cases hbig : 2147483647 < n
  · go_enter Tryz.func3, Tryz.ntmps3
    go_wp2_with fail
    go_ret
    exact ⟨rfl, Chg.refl _ _⟩
  · go_enter Tryz.func3, Tryz.ntmps3
    go_wp2_with (go_at_call 4; go_must (refine HSc.out.mono ?_); rintro e w1 ⟨v, L, rfl, hst, hl, hgood, hc1⟩; obtain ⟨A1, n1, c1, rfl, HS1⟩ := steps_form hst; have HL := Lib.hid (And.intro hl (And.intro hgood hc1)); clear hst hl hgood hc1)
    refine ((playI_any w1 A1 n1 c1 p s0 s1 s2 L h4 h10 HS1.out.2 HS1.out.1 (by rw [HS1.out.1]; exact HL.out.1) HL.out.2.1).mono fun _ _ h => h.two).mono ?_
    rintro e w2 ⟨G, C, R, rfl, hR, hRl, hreg, hc2⟩
    have HR := Lib.hid (And.intro hR (And.intro hRl (And.intro hreg hc2)))
    clear hR hRl hreg hc2
    generalize hM : 2 ^ p = M at HR
    have HM := Lib.hid hM
    clear hM
    go_wp2_with fail
    have HC3 : Hid (Chg [] w1 (w2.alloc (.cells #[.slice (some ⟨G 0, 0, none⟩) M (C 0), .slice (some ⟨G 1, 0, none⟩) M (C 1), .slice (some ⟨G 2, 0, none⟩) M (C 2)] 25))) := Lib.hid (HR.out.2.2.2.alloc _)
    have HB3 : Hid (Blk (w2.alloc (.cells #[.slice (some ⟨G 0, 0, none⟩) M (C 0), .slice (some ⟨G 1, 0, none⟩) M (C 1), .slice (some ⟨G 2, 0, none⟩) M (C 2)] 25)) w2.heap.size 25 (arr3 fun i => .slice (some ⟨G i, 0, none⟩) M (C i))) := Lib.hid (Blk.new _ _ _)
    have HR3 : Hid (∀ i, i < 3 → (w2.alloc (.cells #[.slice (some ⟨G 0, 0, none⟩) M (C 0), .slice (some ⟨G 1, 0, none⟩) M (C 1), .slice (some ⟨G 2, 0, none⟩) M (C 2)] 25)).ownsRow 0 5 1 (.slice (some ⟨G i, 0, none⟩) M (C i)) M ((R i).map vU8)) := Lib.hid fun i hi => own_agree (HR.out.1 i hi) (fun k hk => Below.heap_alloc _ _ _ (own_lt (HR.out.1 i hi) hk))
    have HP : Hid (Calls Tryz.prog 6 #[.slice A1 n1 c1] (w2.alloc (.cells #[.slice (some ⟨G 0, 0, none⟩) M (C 0), .slice (some ⟨G 1, 0, none⟩) M (C 1), .slice (some ⟨G 2, 0, none⟩) M (C 2)] 25)) (PsOut2 (w2.alloc (.cells #[.slice (some ⟨G 0, 0, none⟩) M (C 0), .slice (some ⟨G 1, 0, none⟩) M (C 1), .slice (some ⟨G 2, 0, none⟩) M (C 2)] 25)) L)) := by
      have hst := stepsAgree (w' := w2.alloc (.cells #[.slice (some ⟨G 0, 0, none⟩) M (C 0), .slice (some ⟨G 1, 0, none⟩) M (C 1), .slice (some ⟨G 2, 0, none⟩) M (C 2)] 25)) (v := .slice A1 n1 c1) (L := L) (by have h := HS1.out.2; rw [HS1.out.1] at h; unfold Steps; rw [HS1.out.1]; exact h) (fun k hk => HC3.out.same ((HS1.out.2.lt k hk).2) (by simp))
      unfold Steps at hst
      rw [← HS1.out.1] at hst
      exact Lib.hid ((playS_any _ A1 n1 c1 L hst HS1.out.1 (by rw [HS1.out.1]; exact HL.out.1) HL.out.2.1).mono fun _ _ h => h.two)
    generalize w2.alloc (.cells #[.slice (some ⟨G 0, 0, none⟩) M (C 0), .slice (some ⟨G 1, 0, none⟩) M (C 1), .slice (some ⟨G 2, 0, none⟩) M (C 2)] 25) = w3 at HC3 HB3 HR3 HP ⊢
    generalize w2.heap.size = b12 at HB3 ⊢
    refine HP.out.mono ?_
    rintro e w4 ⟨D, N, C', LL, rfl, hQ, hN, hLl, hL6, hLs, hc4⟩
    have HQ := Lib.hid (And.intro hQ (And.intro hN (And.intro hLl (And.intro hL6 (And.intro hLs hc4)))))
    clear hQ hN hLl hL6 hLs hc4 HP
    have KB : Hid (∀ W, Chg [] w4 W → ∀ i, i < 3 → W.cell? ⟨b12, i, none⟩ = some (.slice (some ⟨G i, 0, none⟩) M (C i))) := Lib.hid fun W hc i hi => by
      have h := ((HB3.out.chg HQ.out.2.2.2.2.2 (by simp)).chg hc (by simp)).cell i
      rwa [arr3_get _ hi] at h
    have KR : Hid (∀ W, Chg [] w4 W → ∀ i, i < 3 → Calls Tryz.prog 8 #[.int .u8 (p : Int), .slice (D i) (N i) (C' i)] W fun e w' => ∃ g c, e = .returned (.slice (some ⟨g, 0, none⟩) M c) ∧ Chg [] W w' ∧ Calls Tryz.prog 7 #[.slice (some ⟨G i, 0, none⟩) M (C i), .slice (some ⟨g, 0, none⟩) M c] w' fun e w'' => e = .returned (.bool true) ∧ Chg [] w' w'') := Lib.hid fun W hc i hi => by
      obtain ⟨hQ, hN, hLl, hL6, hLs, hc4⟩ := HQ.out
      have h1 := regsS_any W (D i) (N i) (C' i) p (LL i) h4 h10 (own_agree (hQ i hi) (fun k hk => hc.same (own_lt (hQ i hi) hk) (by simp))) (hN i hi) (by rw [hN i hi]; exact hLl i hi) (hL6 i hi)
      refine h1.mono ?_
      rintro e w' ⟨g, c, R', rfl, ho, hl, hr, hcw⟩
      refine ⟨g, c, by rw [HM.out], hcw, ?_⟩
      have e1 : R i = R' := IsReg.unique (HR.out.2.2.1 i hi) (hr.congr (fun x => hLs i hi x)) (by rw [HR.out.2.1 i hi, HM.out]) hl
      have hall : Chg [] w3 w' := (hc4.trans hc (by simp)).trans hcw (by simp)
      have h2 := own_agree (HR3.out i hi) (fun k hk => hall.same (own_lt (HR3.out i hi) hk) (by simp))
      rw [← e1, HM.out] at ho
      exact same_any w' (G i) (C i) g c M (R i) (by rw [HR.out.2.1 i hi]) (by rw [← HM.out]; exact Nat.pow_le_pow_right (n := 2) (by omega) h10) h2 ho
    have HPV : Hid (∀ W, Calls Tryz.prog 9 #[.int .u32 1] W (PvOut W)) := Lib.hid putv_any
    have HCW : Hid (Chg [] w w4) := Lib.hid ((HL.out.2.2.trans HC3.out (by simp)).trans HQ.out.2.2.2.2.2 (by simp))
    have H30 : Hid (∀ W m, m < 3 → (Instr.index 30 (.agg #[.slice (D 0) (N 0) (C' 0), .slice (D 1) (N 1) (C' 1), .slice (D 2) (N 2) (C' 2)]) (.int .i64 ((m : Nat) : Int))).run Tryz.prog W = .ok (.slice (D m) (N m) (C' m)) W) := Lib.hid fun W m hm => by
      have h := index30 W (D 0, N 0, C' 0) (D 1, N 1, C' 1) (D 2, N 2, C' 2) m hm
      rcases lt3 hm with rfl | rfl | rfl <;> exact h
    clear HC3 HB3 HR3 HR HQ HM HS1 HL
    go_wp2_with fail
    go_loopw [38] (fun s38 wr => ∃ m : Nat, s38 = .int .i64 (m : Int) ∧ m ≤ 3 ∧ Hid (Chg [] w4 wr)) (fun s38 _ => 3 - (intOf s38).toNat)
    case atStart => exact ⟨0, rfl, by omega, Chg.refl _ _⟩
    case round =>
      obtain ⟨m, rfl, hm, hI⟩ := hrel
      by_cases hlt : m < 3
      · have hidx := H30.out wr m hlt
        have hca := KB.out wr hI.out m hlt
        have b1 : (0 : Int) ≤ (m : Int) := by omega
        have b2 : (m : Int) < 3 := by omega
        have HK8 : Hid (Calls Tryz.prog 8 #[.int .u8 (p : Int), .slice (D m) (N m) (C' m)] wr.drew fun e w' => ∃ g c, e = .returned (.slice (some ⟨g, 0, none⟩) M c) ∧ Chg [] wr.drew w' ∧ Calls Tryz.prog 7 #[.slice (some ⟨G m, 0, none⟩) M (C m), .slice (some ⟨g, 0, none⟩) M c] w' fun e w'' => e = .returned (.bool true) ∧ Chg [] w' w'') := Lib.hid (KR.out wr.drew hI.out.drew m hlt)
        go_wp2_with fail
        go_region_held3 (fun w' => w'.cell? ⟨b12, m, none⟩ = some (.slice (some ⟨G m, 0, none⟩) M (C m))) (first | exact hKeep2 | exact hKeep | go_keep) (first
          | (go_at_call 8; go_must (refine HK8.out.mono ?_); rintro e w5 ⟨g8, c8, rfl, hc5, h7⟩; have hK5 : Chg [] w4 w5 := (hI.out.drew.trans hc5 (by simp)); have hKeep := KB.out w5 hK5 m hlt; have H7 := Lib.hid h7; have HC5 := Lib.hid hK5; clear h7 hc5 hK5)
          | (go_at_call 7; go_must (refine H7.out.mono ?_); rintro e w6 ⟨rfl, hc6⟩; have hK6 : Chg [] w4 w6 := (HC5.out.trans hc6 (by simp)); have hKeep2 := KB.out w6 hK6 m hlt; have HC6 := Lib.hid hK6; clear hc6 hK6))
        go_wp2_with fail
        go_roundw
        case rel => exact ⟨m + 1, by go_num, by omega, HC6⟩
        case measure => simp [intOf]; omega
      · have HP9 := Lib.hid (HPV.out wr)
        go_wp2_with (go_at_call 9; go_must (refine HP9.out.mono ?_); rintro e w5 ⟨g9, c9, rfl, hc5⟩; have HC5 := Lib.hid hc5; clear hc5)
        go_ret
        exact ⟨rfl, (HCW.out.trans hI.out (by simp)).trans HC5.out (by simp)⟩
end Go.Proofs.YtgoliddhhichgaaGreatDoor
