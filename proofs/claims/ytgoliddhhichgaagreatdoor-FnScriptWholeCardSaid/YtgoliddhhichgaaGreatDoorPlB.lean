/- The walk of impl.Play. -/
import Derived.Test.YtgoliddhhichgaaGreatDoorPlA
import Derived.Deep.CutBlock
import Derived.Deep.RegionHeld3
namespace Go.Proofs.YtgoliddhhichgaaGreatDoor
open Go.RowKit Pl

theorem index43 (w : World) (B : Nat → Nat) (m : Nat) (hm : m < 3) : (Instr.index 43 (.agg #[.pointer (some ⟨B 0, 0, none⟩), .pointer (some ⟨B 1, 0, none⟩), .pointer (some ⟨B 2, 0, none⟩)]) (.int .i64 (m : Int))).run Tryz.prog w = .ok (.pointer (some ⟨B m, 0, none⟩)) w := by
  have hs : (Tryz.prog.info? 42).map (·.size) = some 1 := by kernel_rfl
  have h0 : (0 : Int) ≤ m := by omega
  have h1 : (m : Int) < 3 := by omega
  cases hi : Tryz.prog.info? 42 with
  | none => rw [hi] at hs; cases hs
  | some i =>
    rw [hi] at hs
    have hs' : i.size = 1 := by simpa using hs
    rcases lt3 hm with rfl | rfl | rfl <;> simp [Instr.index, run_underlying Tryz.underlying43, asIntOf, sizeOf, typeInfo, hi, hs', go_sem]

/-- The bytes of a written sketch as a slice that shows its form. -/
theorem mar_form {a w : World} {v : Value} {xs : List Nat} (h : Data a w v xs) (hx : 0 < xs.length) : ∃ g n c, v = .slice (some ⟨g, 0, none⟩) n c ∧ Hid (n = xs.length ∧ n ≤ c ∧ BytesAt w g 0 xs ∧ g < w.heap.size) := by
  obtain ⟨ho, _⟩ := h
  unfold Own at ho
  rcases own_form ho with ⟨_, h0, _⟩ | ⟨g, cap, rfl, hnc, _, hcell, _, hlt⟩
  · simp at h0
    rw [h0] at hx
    simp at hx
  · refine ⟨g, _, cap, rfl, Lib.hid ⟨by simp, hnc, fun i b hb => ?_, hlt⟩⟩
    rw [Nat.zero_add]
    exact hcell i (vU8 b) (by rw [List.getElem?_map, hb]; rfl)

/-- Registers as a slice that shows its form. -/
theorem rg_form {w : World} {v : Value} {R : List Nat} {p : Nat} (h : Own w 5 v (R.map vU8)) (hl : R.length = 2 ^ p) : ∃ B n c, v = .slice B n c ∧ Hid (w.ownsRow 0 5 1 (.slice B n c) (2 ^ p) (R.map vU8)) := by
  unfold Own at h
  obtain ⟨B, c, rfl, _⟩ := own_slice h
  rw [List.length_map, hl] at h
  exact ⟨B, 2 ^ p, c, by rw [List.length_map, hl], Lib.hid h⟩

/-- What Play hands back. -/
def PiOut (w : World) (p : Nat) (L : List St) (e : Ending) (w' : World) : Prop :=
  ∃ (V : Nat → Value) (R : Nat → List Nat), e = .returned (.tuple #[.agg (arr3 V), .bool true]) ∧ (∀ i, i < 3 → w'.ownsRow 0 5 1 (V i) (2 ^ p) ((R i).map vU8)) ∧ (∀ i, i < 3 → (R i).length = 2 ^ p) ∧ (∀ i, i < 3 → IsReg p (playH L i) (R i)) ∧ Chg [] w w'

set_option maxHeartbeats 4000000 in
set_option maxRecDepth 100000 in
/-- impl.Play. -/
theorem playI_any (w : World) (A : Option Addr) (n c p : Nat) (s0 s1 s2 : Bool) (L : List St) (h4 : 4 ≤ p) (h10 : p ≤ 10) (h : w.ownsRow 0 40 4 (.slice A n c) n (L.flatMap stc)) (hn : n = L.length) (hn1 : n ≤ 5120) (hL : ∀ s, s ∈ L → GoodSt s) :
    Calls Tryz.prog 5 #[.int .u8 (p : Int), .agg #[.bool s0, .bool s1, .bool s2], .slice A n c] w (PiOut w p L) := by
  have KL := Lib.hid (steps_at h hn)
  have X := Lib.hid (And.intro hn hL)
  clear h hn hL
  go_enter Tryz.func5, Tryz.ntmps5
  go_wp2_with fail
  obtain ⟨bs, hbs⟩ : ∃ bs : Nat → Bool, arr3 (fun i => .bool (bs i)) = #[.bool s0, .bool s1, .bool s2] := ⟨fun i => if i = 0 then s0 else if i = 1 then s1 else s2, rfl⟩
  have A0 : Hid (PI w (((w.alloc (.cells #[.bool s0, .bool s1, .bool s2] 28)).alloc (.cells #[.slice none 0 0, .slice none 0 0, .slice none 0 0] 25)).alloc (.cells #[.pointer none, .pointer none, .pointer none] 43)) (w.heap.size + 1 + 1 + 1) w.heap.size (w.heap.size + 1) (w.heap.size + 1 + 1) p 0 (arr3 fun i => .bool (bs i)) (fun _ => .pointer none) (fun _ => 0) (fun _ => []) (fun _ _ => False)) := by
    rw [hbs]
    refine Lib.hid ⟨alloc_new' _ _ _ (by simp), ?_, ?_, ?_, ?_, ?_, (((Chg.refl _ _).alloc _).alloc _).alloc _, ?_, ?_, by omega, by omega, by omega, by omega, by omega, by omega, by omega, by simp, by omega⟩
    · intro i hi; omega
    · intro i hi; omega
    · intro i hi; omega
    · intro i j hi; omega
    · intro i hi; omega
    · exact Blk.alloc (alloc_new' (w.alloc _) _ _ (by simp)) _
    · exact ((Blk.new w 28 _).alloc _).alloc _
  generalize (((w.alloc (.cells #[.bool s0, .bool s1, .bool s2] 28)).alloc (.cells #[.slice none 0 0, .slice none 0 0, .slice none 0 0] 25)).alloc (.cells #[.pointer none, .pointer none, .pointer none] 43)) = w0 at A0 ⊢
  generalize w.heap.size + 1 + 1 + 1 = N at A0 ⊢
  generalize w.heap.size + 1 + 1 = b8 at A0 ⊢
  generalize w.heap.size + 1 = b6 at A0 ⊢
  generalize w.heap.size = b4 at A0 ⊢
  clear hbs
  go_loopw [23] (fun s23 wr => ∃ (j : Nat) (V : Nat → Value) (B : Nat → Nat) (FF : Nat → List Nat) (H : Nat → Nat → Prop), s23 = .int .i64 (j : Int) ∧ j ≤ 3 ∧ Hid (PI w wr N b4 b6 b8 p j (arr3 fun i => .bool (bs i)) V B FF H ∧ ∀ i, i < j → ∀ z, ¬ H i z)) (fun s23 _ => 3 - (intOf s23).toNat)
  case atStart => exact ⟨0, _, _, _, _, rfl, by omega, A0.out, fun i hi => by omega⟩
  case round =>
    obtain ⟨j, V, B, FF, H, rfl, hj, hI⟩ := hrel
    clear A0
    by_cases hlt : j < 3
    · have HN : Hid (∀ W s, Calls Tryz.prog 11 #[.int .u8 (p : Int), .bool s] W fun e w' => ∃ b F, e = .returned (.tuple #[.pointer (some ⟨b, 0, none⟩), .nilIface]) ∧ Sk w' b F p (fun _ => False) ∧ Chg [] W w' ∧ Grew W [] F) := Lib.hid fun W s => newSketch_any W p s h4 h10
      have hz := hI.out.1.spz.cell j
      rw [arr3_get _ hlt] at hz
      have b1 : (0 : Int) ≤ (j : Int) := by omega
      have b2 : (j : Int) < 3 := by omega
      go_wp2_with (go_at_call 11; go_must (refine (HN.out _ _).mono ?_); rintro e w2 ⟨b, F, rfl, hsk, hc, hg⟩; have Z := Lib.hid (And.intro hsk (And.intro hc hg)); have ca := (hI.out.1.arr.chg hc (by simp)).cell j; have fa := (hI.out.1.arr.chg hc (by simp)).frozen j; rw [arr3_get V hlt] at ca; clear hsk hc hg hz)
      go_roundw
      case rel =>
        obtain ⟨hsk, hc, hg⟩ := Z.out
        refine ⟨j + 1, _, _, _, _, by go_num, by omega, hI.out.1.put (m' := j + 1) hlt (fun i hi => by omega) hsk hc (fun k hk => ?_) (fun z hz => hz.elim), fun i hi z => ?_⟩
        · rcases hg k hk with h1 | h1
          · cases h1
          · exact h1
        · by_cases hij : i = j
          · subst hij; rw [upd3_same]; exact id
          · rw [upd3_ne H _ hij]; exact hI.out.2 i (by omega) z
      case measure => simp [intOf]; omega
    · go_wp2_with fail
      have A1 : Hid (PI w wr N b4 b6 b8 p 3 (arr3 fun i => .bool (bs i)) V B FF H ∧ ∀ i, i < 3 → ∀ z, ¬ H i z) := by
        have h := hI.out
        have hj3 : j = 3 := by omega
        rw [hj3] at h
        exact Lib.hid h
      clear hI hj hlt
      go_loopw [43] (fun s43 wr => ∃ (i : Nat) (V : Nat → Value) (B : Nat → Nat) (FF : Nat → List Nat) (H : Nat → Nat → Prop), s43 = .int .i64 (i : Int) ∧ i ≤ n ∧ Hid (PI w wr N b4 b6 b8 p 3 (arr3 fun i => .bool (bs i)) V B FF H ∧ ∀ j, j < 3 → ∀ z, H j z ↔ playH (L.take i) j z)) (fun s43 _ => n - (intOf s43).toNat)
      case atStart => exact ⟨0, V, B, FF, H, rfl, by omega, A1.out.1, fun j hj z => by simp [playH, A1.out.2 j hj z]⟩
      case round =>
        clear A1
        obtain ⟨i, V, B, FF, H, rfl, hi, hI⟩ := hrel
        by_cases hlt : i < n
        · have hiL : i < L.length := by rw [← X.out.1]; exact hlt
          obtain ⟨s, hs⟩ : ∃ s, L[i]? = some s := ⟨_, List.getElem?_eq_getElem hiL⟩
          obtain ⟨hk4, hx3, hy3, hxy, hh64⟩ := X.out.2 s (List.mem_of_getElem? hs)
          obtain ⟨k, x, y, hsh⟩ := s
          simp only at hk4 hx3 hy3 hxy hh64
          obtain ⟨g, rfl, KG⟩ := KL.out wr hI.out.1.chg i _ hs
          have e0 : wr.cell? ⟨g, i * 4, none⟩ = some (.int .i64 (k : Int)) := KG 0 _ rfl (by omega)
          have e1 : wr.cell? ⟨g, i * 4 + 1, none⟩ = some (.int .i64 (x : Int)) := KG 1 _ rfl (by omega)
          have e2 : wr.cell? ⟨g, i * 4 + 2, none⟩ = some (.int .i64 (y : Int)) := KG 2 _ rfl (by omega)
          have e3 : wr.cell? ⟨g, i * 4 + 3, none⟩ = some (.int .u64 (hsh : Int)) := KG 3 _ rfl (by omega)
          have HT : Hid (∀ (H' : Nat → Nat → Prop), (∀ j, j < 3 → ∀ z, H' j z ↔ stepH ⟨k, x, y, hsh⟩ H j z) → ∀ j, j < 3 → ∀ z, H' j z ↔ playH (L.take (i + 1)) j z) := by
            refine Lib.hid fun H' hH' j hj z => ?_
            rw [hH' j hj z, takeS hs, playH_snoc]
            exact stepH_congr hx3 hy3 hI.out.2 hj z
          clear hs hiL KG
          have HP1 : Hid (PI w (wr.alloc (.cells #[.int .i64 (k : Int), .int .i64 (x : Int), .int .i64 (y : Int), .int .u64 (hsh : Int)] 40)) N b4 b6 b8 p 3 (arr3 fun i => .bool (bs i)) V B FF H ∧ Blk (wr.alloc (.cells #[.int .i64 (k : Int), .int .i64 (x : Int), .int .i64 (y : Int), .int .u64 (hsh : Int)] 40)) wr.heap.size 40 #[.int .i64 (k : Int), .int .i64 (x : Int), .int .i64 (y : Int), .int .u64 (hsh : Int)] ∧ N ≤ wr.heap.size) := Lib.hid ⟨hI.out.1.chg' ((Chg.refl _ _).alloc _), Blk.new _ _ _, hI.out.1.low⟩
          have hcx := hI.out.1.arr.cell x
          rw [arr3_get V hx3, hI.out.1.ptr x hx3] at hcx
          have hcxa : (wr.alloc (.cells #[.int .i64 (k : Int), .int .i64 (x : Int), .int .i64 (y : Int), .int .u64 (hsh : Int)] 40)).cell? ⟨b8, x, none⟩ = some (.pointer (some ⟨B x, 0, none⟩)) := by
            rw [World.cell?_alloc_some _ _ _ (by rw [hcx]; rfl)]; exact hcx
          have bx : (0 : Int) ≤ (x : Int) := by omega
          have bx2 : (x : Int) < 3 := by omega
          have by_ : (0 : Int) ≤ (y : Int) := by omega
          have by2 : (y : Int) < 3 := by omega
          go_upto_block 4 with fail
          clear e0 e1 e2 e3 hcx hcxa hI
          generalize wr.alloc (.cells #[.int .i64 (k : Int), .int .i64 (x : Int), .int .i64 (y : Int), .int .u64 (hsh : Int)] 40) = w1 at HP1 ⊢
          generalize wr.heap.size = sx at HP1 ⊢
          have d1 := HP1.out.2.1.cell 1
          have d2 := HP1.out.2.1.cell 2
          have d3 := HP1.out.2.1.cell 3
          simp at d1 d2 d3
          have hcx := HP1.out.1.arr.cell x
          rw [arr3_get V hx3, HP1.out.1.ptr x hx3] at hcx
          have hcy := HP1.out.1.arr.cell y
          rw [arr3_get V hy3, HP1.out.1.ptr y hy3] at hcy
          rcases (show k = 0 ∨ k = 1 ∨ k = 2 ∨ k = 3 ∨ k = 4 by omega) with rfl | rfl | rfl | rfl | rfl
          · have HI : Hid (Calls Tryz.prog 12 #[.pointer (some ⟨B x, 0, none⟩), .int .u64 (hsh : Int)] w1 (Left w1 (B x) (FF x) p (fun z => H x z ∨ z = hsh))) := Lib.hid (insert_any w1 (B x) p (FF x) (H x) hsh h4 h10 (HP1.out.1.sk x hx3) (HP1.out.1.hs x hx3) hh64)
            go_wp2_with (go_at_call 12; go_must (refine HI.out.mono ?_); rintro e w2 ⟨F', rfl, hsk, hc, hg⟩; have Z := Lib.hid (And.intro hsk (And.intro hc hg)); clear hsk hc hg)
            go_roundw
            case rel =>
              obtain ⟨hsk, hc, hg⟩ := Z.out
              refine ⟨i + 1, _, _, _, _, by go_num, by omega, HP1.out.1.call hx3 hsk hc hg (fun z hz => ?_), HT.out _ (fun j hj z => ?_)⟩
              · rcases hz with hz | rfl
                · exact HP1.out.1.hs x hx3 z hz
                · exact hh64
              · by_cases hjx : j = x
                · subst hjx; rw [upd3_same]; simp [stepH]
                · rw [upd3_ne H _ hjx]; simp [stepH, hjx]
            case measure => simp [intOf]; omega
          · have HI : Hid (Calls Tryz.prog 13 #[.pointer (some ⟨B y, 0, none⟩), .pointer (some ⟨B x, 0, none⟩)] w1 (LeftE w1 (B y) (FF y) p (fun z => H y z ∨ H x z))) := Lib.hid (merge_any w1 (B y) (B x) p (FF y) (FF x) (H y) (H x) h4 h10 (HP1.out.1.sk y hy3) (HP1.out.1.hs y hy3) (HP1.out.1.sk x hx3) (HP1.out.1.hs x hx3) (HP1.out.1.apart x y hx3 hy3 hxy))
            go_wp2_with (go_at_call 13; go_must (refine HI.out.mono ?_); rintro e w2 ⟨F', rfl, hsk, hc, hg⟩; have Z := Lib.hid (And.intro hsk (And.intro hc hg)); clear hsk hc hg)
            go_roundw
            case rel =>
              obtain ⟨hsk, hc, hg⟩ := Z.out
              refine ⟨i + 1, _, _, _, _, by go_num, by omega, HP1.out.1.call hy3 hsk hc hg (fun z hz => ?_), HT.out _ (fun j hj z => ?_)⟩
              · rcases hz with hz | hz
                · exact HP1.out.1.hs y hy3 z hz
                · exact HP1.out.1.hs x hx3 z hz
              · by_cases hjy : j = y
                · subst hjy; rw [upd3_same]; simp [stepH]
                · rw [upd3_ne H _ hjy]; simp [stepH, hjy]
            case measure => simp [intOf]; omega
          · have HI : Hid (Calls Tryz.prog 14 #[.pointer (some ⟨B x, 0, none⟩)] w1.drew (NewSk w1.drew p (H x))) := Lib.hid (clone_any w1.drew (B x) p (FF x) (H x) h10 ((HP1.out.1.sk x hx3).chg (Chg.refl [] w1).drew (by simp)))
            have hne : b8 ≠ sx := (Blk.ne_ HP1.out.1.arr HP1.out.2.1 (by decide))
            go_upto_region 21 with fail
            go_region_held3 (fun w' => w'.cell? ⟨sx, 2, none⟩ = some (.int .i64 (y : Int))) (first | exact hKeep | go_keep) (first
              | (go_at_call 14; go_must (refine HI.out.mono ?_); rintro e w2 ⟨b, F', rfl, hsk, hc, hg⟩; have hc2 : Chg [] w1 w2 := ((Chg.refl _ _).drew.trans hc (by simp)); have hKeep := (HP1.out.2.1.chg hc2 (by simp)).cell 2; have ca := (HP1.out.1.arr.chg hc2 (by simp)).cell y; have fa := (HP1.out.1.arr.chg hc2 (by simp)).frozen y; rw [arr3_get V hy3] at ca; simp at hKeep; have Z := Lib.hid (And.intro hsk (And.intro hc2 hg)); clear hsk hc hg hc2))
            go_wp2_with fail
            go_roundw
            case rel =>
              obtain ⟨hsk, hc2, hg⟩ := Z.out
              refine ⟨i + 1, _, _, _, _, by go_num, by omega, HP1.out.1.put (m' := 3) hy3 (fun i hi => .inr hi) hsk hc2 (fun q hq => ?_) (HP1.out.1.hs x hx3), HT.out _ (fun j hj z => ?_)⟩
              · rcases hg q hq with h1 | h1
                · cases h1
                · exact h1
              · by_cases hjy : j = y
                · subst hjy; rw [upd3_same]; simp [stepH]
                · rw [upd3_ne H _ hjy]; simp [stepH, hjy]
            case measure => simp [intOf]; omega
          · obtain ⟨rep, hskat, hsay⟩ := HP1.out.1.sk x hx3
            have HM : Hid (Calls Tryz.prog 15 #[.pointer (some ⟨B x, 0, none⟩)] w1 (MarOut w1 (skBytes p rep))) := Lib.hid (mar_any w1 (B x) p (FF x) rep (H x) h4 h10 hskat hsay)
            have hrep := rep_ok hskat hsay (HP1.out.1.hs x hx3)
            have HU : Hid (∀ (W2 : World) (gv nv cv : Nat), nv = (skBytes p rep).length ∧ nv ≤ cv ∧ BytesAt W2 gv 0 (skBytes p rep) ∧ gv < W2.heap.size → Calls Tryz.prog 16 #[.pointer (some ⟨W2.heap.size, 0, none⟩), .slice (some ⟨gv, 0, none⟩) nv cv] (W2.alloc (.cells #[.int .u8 0, .int .u32 0, .float .f64 0, .pointer none, .pointer none, .slice none 0 0] 59)) (UnS (W2.alloc (.cells #[.int .u8 0, .int .u32 0, .float .f64 0, .pointer none, .pointer none, .slice none 0 0] 59)) W2.heap.size p rep)) := by
              refine Lib.hid fun W2 gv nv cv ⟨q1, q2, q3, q4⟩ => ?_
              exact unmar_any _ W2.heap.size p gv nv cv rep (H x) h4 h10 hsay (HP1.out.1.hs x hx3) (by cases rep <;> exact hrep) (Blk.new W2 59 zeroSk) q1 q2 (q3.agree (Below.heap_alloc _ _ _ q4)) (by simp; omega) (by omega)
            have HSY := Lib.hid hsay
            have hlen : 0 < (skBytes p rep).length := by cases rep <;> simp [skBytes]
            have HLEN := Lib.hid hlen
            clear hskat hsay hrep hlen
            go_wp2_with (first
              | (go_at_call 15; go_must (refine HM.out.mono ?_); rintro e w2 ⟨v', rfl, hc, hd⟩; obtain ⟨gv, nv, cv, rfl, HD⟩ := mar_form hd HLEN.out; have HC2 := Lib.hid hc; clear hc hd)
              | (go_at_call 16; go_must (refine (HU.out w2 gv nv cv ⟨HD.out.1, HD.out.2.1, HD.out.2.2.1, HD.out.2.2.2⟩).mono ?_); rintro e w3 ⟨F', rfl, hsk, hc, hg⟩; have hc3 : Chg [] w1 w3 := ((HC2.out.alloc _).trans hc (fun q hq => .inr (by simp at hq; have := HC2.out.size; omega))); have ca := (HP1.out.1.arr.chg hc3 (by simp)).cell y; have fa := (HP1.out.1.arr.chg hc3 (by simp)).frozen y; rw [arr3_get V hy3] at ca; have d2' := (HP1.out.2.1.chg hc3 (by simp)).cell 2; simp at d2'; have Z := Lib.hid (And.intro hsk (And.intro hc3 hg)); clear hsk hc hg hc3))
            obtain ⟨hsk, hc3, hg⟩ := Z.out
            refine ⟨⟨i + 1, _, _, _, _, by go_num, by omega, HP1.out.1.put (m' := 3) hy3 (fun i hi => .inr hi) ⟨rep, hsk, HSY.out⟩ hc3 (fun q hq => ?_) (HP1.out.1.hs x hx3), HT.out _ (fun j hj z => ?_)⟩, by simp [intOf]; omega⟩
            · have := HC2.out.size
              rcases hg q hq with h1 | h1
              · simp at h1; omega
              · simp at h1; omega
            · by_cases hjy : j = y
              · subst hjy; rw [upd3_same]; simp [stepH]
              · rw [upd3_ne H _ hjy]; simp [stepH, hjy]
          · have HN : Hid (∀ W s, Calls Tryz.prog 11 #[.int .u8 (p : Int), .bool s] W fun e w' => ∃ b F, e = .returned (.tuple #[.pointer (some ⟨b, 0, none⟩), .nilIface]) ∧ Sk w' b F p (fun _ => False) ∧ Chg [] W w' ∧ Grew W [] F) := Lib.hid fun W s => newSketch_any W p s h4 h10
            have hz := HP1.out.1.spz.cell x
            rw [arr3_get _ hx3] at hz
            go_wp2_with (go_at_call 11; go_must (refine (HN.out _ _).mono ?_); rintro e w2 ⟨b, F, rfl, hsk, hc, hg⟩; have Z := Lib.hid (And.intro hsk (And.intro hc hg)); have ca := (HP1.out.1.arr.chg hc (by simp)).cell x; have fa := (HP1.out.1.arr.chg hc (by simp)).frozen x; rw [arr3_get V hx3] at ca; have d1' := (HP1.out.2.1.chg hc (by simp)).cell 1; simp at d1'; clear hsk hc hg hz)
            go_roundw
            case rel =>
              obtain ⟨hsk, hc, hg⟩ := Z.out
              refine ⟨i + 1, _, _, _, _, by go_num, by omega, HP1.out.1.put (m' := 3) hx3 (fun i hi => .inr hi) hsk hc (fun q hq => ?_) (fun z hz => hz.elim), HT.out _ (fun j hj z => ?_)⟩
              · rcases hg q hq with h1 | h1
                · cases h1
                · exact h1
              · by_cases hjx : j = x
                · subst hjx; rw [upd3_same]; simp [stepH]
                · rw [upd3_ne H _ hjx]; simp [stepH, hjx]
            case measure => simp [intOf]; omega
        · have hiL : i = L.length := by rw [← X.out.1]; omega
          have HI : Hid (PI w wr N b4 b6 b8 p 3 (arr3 fun i => .bool (bs i)) V B FF H ∧ ∀ j, j < 3 → ∀ z, H j z ↔ playH L j z) := by
            have h := hI.out
            rw [hiL, List.take_length] at h
            exact Lib.hid h
          clear hI hiL
          have p0 := HI.out.1.arr.cell 0
          have p1 := HI.out.1.arr.cell 1
          have p2 := HI.out.1.arr.cell 2
          simp [arr3, HI.out.1.ptr 0 (by omega), HI.out.1.ptr 1 (by omega), HI.out.1.ptr 2 (by omega)] at p0 p1 p2
          have p0a : ∀ o, (wr.alloc o).cell? ⟨b8, 0, none⟩ = some (.pointer (some ⟨B 0, 0, none⟩)) := fun o => by rw [World.cell?_alloc_some _ _ _ (by rw [p0]; rfl)]; exact p0
          have p1a : ∀ o, (wr.alloc o).cell? ⟨b8, 1, none⟩ = some (.pointer (some ⟨B 1, 0, none⟩)) := fun o => by rw [World.cell?_alloc_some _ _ _ (by rw [p1]; rfl)]; exact p1
          have p2a : ∀ o, (wr.alloc o).cell? ⟨b8, 2, none⟩ = some (.pointer (some ⟨B 2, 0, none⟩)) := fun o => by rw [World.cell?_alloc_some _ _ _ (by rw [p2]; rfl)]; exact p2
          go_wp2_with fail
          have A3 : Hid (PJ w (wr.alloc (.cells #[.slice none 0 0, .slice none 0 0, .slice none 0 0] 25)) (wr.heap.size + 1) b6 wr.heap.size p 0 (fun _ => .slice none 0 0) (fun _ => []) B FF H) := by
            have h := HI.out.1
            have hlow := h.low
            have hl6 := h.l6
            have hz := h.chg.size
            refine Lib.hid ⟨Blk.new _ _ _, h.res.alloc _, ?_, ?_, ?_, ?_, fun i _ hi => (h.sk i hi).chg ((Chg.refl [] wr).alloc _) (by simp), fun i hi k hk => ⟨?_, ?_, ?_, ?_⟩, h.apart, h.hs, h.chg.alloc _, by omega, by omega, h.w6, by omega, by simp⟩
            · intro i hi; omega
            · intro i hi; omega
            · intro i hi; omega
            · intro i hi; omega
            · have := (h.sk i hi).lt k hk; omega
            · have := (h.sk i hi).lt k hk; omega
            · have := h.fresh i hi k hk; omega
            · have := h.fresh i hi k hk; have := h.wN; omega
          have HS : Hid (∀ j, j < 3 → ∀ z, H j z ↔ playH L j z) := Lib.hid HI.out.2
          clear p0 p1 p2 p0a p1a p2a HI
          generalize wr.alloc (.cells #[.slice none 0 0, .slice none 0 0, .slice none 0 0] 25) = w3 at A3 ⊢
          generalize wr.heap.size + 1 = N3 at A3 ⊢
          generalize wr.heap.size = b20 at A3 ⊢
          go_loopw [118] (fun s118 wr => ∃ (j : Nat) (V : Nat → Value) (R : Nat → List Nat), s118 = .int .i64 (j : Int) ∧ j ≤ 3 ∧ Hid (PJ w wr N3 b6 b20 p j V R B FF H)) (fun s118 _ => 3 - (intOf s118).toNat)
          case atStart => exact ⟨0, _, _, rfl, by omega, A3⟩
          case round =>
            clear A3
            obtain ⟨m, V, R, rfl, hm, hJ⟩ := hrel
            by_cases hlt : m < 3
            · have hidx := index43 wr B m hlt
              have HRg : Hid (Calls Tryz.prog 17 #[.pointer (some ⟨B m, 0, none⟩)] wr (RgOut wr (FF m) p (H m))) := Lib.hid (regs_any wr (B m) p (FF m) (H m) h4 h10 (hJ.out.todo m (Nat.le_refl _) hlt) (hJ.out.hs m hlt))
              have b1 : (0 : Int) ≤ (m : Int) := by omega
              have b2 : (m : Int) < 3 := by omega
              go_wp2_with (go_at_call 17; go_must (refine HRg.out.mono ?_); rintro e w2 ⟨v, R2, rfl, hreg, hlen, hown, hc, hblk, _⟩; obtain ⟨A2, n2, c2, rfl, HO⟩ := rg_form hown hlen; have ca := (hJ.out.out.chg hc (fun hx => (hJ.out.small m hlt _ hx).2.1 rfl)).cell m; have fa := (hJ.out.out.chg hc (fun hx => (hJ.out.small m hlt _ hx).2.1 rfl)).frozen m; rw [arr3_get V hlt] at ca; have Z := Lib.hid (And.intro hreg (And.intro hlen (And.intro hc hblk))); clear hreg hlen hown hc hblk)
              go_roundw
              case rel =>
                obtain ⟨hreg, hlen, hc, hblk⟩ := Z.out
                exact ⟨m + 1, _, _, by go_num, by omega, Lib.hid (hJ.out.next hlt hreg hlen HO.out hc hblk)⟩
              case measure => simp [intOf]; omega
            · have HJ : Hid (PJ w wr N3 b6 b20 p 3 V R B FF H) := by
                have h := hJ.out
                rw [show m = 3 by omega] at h
                exact Lib.hid h
              clear hJ
              obtain ⟨A0, c0, hV0, _⟩ := own_slice (HJ.out.own 0 (by omega))
              obtain ⟨A1, c1, hV1, _⟩ := own_slice (HJ.out.own 1 (by omega))
              obtain ⟨A2, c2, hV2, _⟩ := own_slice (HJ.out.own 2 (by omega))
              generalize hM : 2 ^ p = M at hV0 hV1 hV2
              have q0 := HJ.out.out.cell 0
              have q1 := HJ.out.out.cell 1
              have q2 := HJ.out.out.cell 2
              have r0 := HJ.out.res.cell 0
              have r1 := HJ.out.res.cell 1
              have r2 := HJ.out.res.cell 2
              have f0 := HJ.out.res.frozen 0
              have f1 := HJ.out.res.frozen 1
              have f2 := HJ.out.res.frozen 2
              simp [arr3, hV0, hV1, hV2] at q0 q1 q2 r0 r1 r2
              have HV := Lib.hid (And.intro hV0 (And.intro hV1 hV2))
              clear hM hV0 hV1 hV2
              go_wp2_with fail
              have hB : Blk (((wr.setCell ⟨b6, 0, none⟩ (.slice A0 M c0)).setCell ⟨b6, 1, none⟩ (.slice A1 M c1)).setCell ⟨b6, 2, none⟩ (.slice A2 M c2)) b6 25 (arr3 V) := by
                have h1 := ((HJ.out.res.set_ 0 (.slice A0 M c0)).set_ 1 (.slice A1 M c1)).set_ 2 (.slice A2 M c2)
                simpa [arr3, HV.out.1, HV.out.2.1, HV.out.2.2] using h1
              have hH : ∀ k, k ≠ b6 → (((wr.setCell ⟨b6, 0, none⟩ (.slice A0 M c0)).setCell ⟨b6, 1, none⟩ (.slice A1 M c1)).setCell ⟨b6, 2, none⟩ (.slice A2 M c2)).heap[k]? = wr.heap[k]? := fun k hk => by
                rw [Below.heap_setCell _ _ _ _ hk, Below.heap_setCell _ _ _ _ hk, Below.heap_setCell _ _ _ _ hk]
              have hC : Chg [] w (((wr.setCell ⟨b6, 0, none⟩ (.slice A0 M c0)).setCell ⟨b6, 1, none⟩ (.slice A1 M c1)).setCell ⟨b6, 2, none⟩ (.slice A2 M c2)) := ((HJ.out.chg.setCell (.inr HJ.out.w6) _).setCell (.inr HJ.out.w6) _).setCell (.inr HJ.out.w6) _
              generalize (((wr.setCell ⟨b6, 0, none⟩ (.slice A0 M c0)).setCell ⟨b6, 1, none⟩ (.slice A1 M c1)).setCell ⟨b6, 2, none⟩ (.slice A2 M c2)) = w5 at hB hH hC ⊢
              have t0 := hB.cell 0
              have t1 := hB.cell 1
              have t2 := hB.cell 2
              simp [arr3] at t0 t1 t2
              refine bodyPost_ret (v := .tuple #[.agg #[V 0, V 1, V 2], .bool true]) (by simp [results, Tryz.results5, go_sem, t0, t1, t2]) rfl ?_
              have hh := HJ.out
              refine ⟨V, R, rfl, fun q hq => own_agree (hh.own q hq) (fun z hz => hH z ?_), hh.len, fun q hq => (hh.reg q hq).congr (HS.out q hq), hC⟩
              rintro rfl
              exact own_ne (hh.own q hq) hh.res (by decide) hz
end Go.Proofs.YtgoliddhhichgaaGreatDoor
