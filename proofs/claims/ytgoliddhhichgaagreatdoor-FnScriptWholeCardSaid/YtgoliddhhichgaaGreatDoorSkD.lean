/- The walk of mergeSparse. -/
import Derived.Test.YtgoliddhhichgaaGreatDoorSkC
import Derived.Deep.RegionHeld3
namespace Go.Proofs.YtgoliddhhichgaaGreatDoor
open Go.RowKit Pl

theorem newList_int (w : World) (N : Int) (h0 : 0 ≤ N) (h : N < 100000000) : Calls Tryz.prog 25 #[.int .i64 N] w (NewL w []) := by
  obtain ⟨n, rfl⟩ := Int.eq_ofNat_of_zero_le h0
  exact newList_any w n (by omega)
theorem eg73' : ∀ args w, (callFunc 73 args).run Tryz.prog w = .ok (.enter 73 args) w := eg73

/-- What mergeSparse leaves. -/
def MSp (w : World) (b p : Nat) (al : Nat) (bt : Nat) (Ft T : List Nat) (L : List Nat) (rv : Value) (e : Ending) (w' : World) : Prop :=
  ∃ b3 F3 O Ft', e = .returned (.tuple #[]) ∧ Blk w' b 59 #[.int .u8 (p : Int), .int .u32 ((2 ^ p : Nat) : Int), .float .f64 al, .pointer (some ⟨bt, 0, none⟩), .pointer (some ⟨b3, 0, none⟩), rv] ∧ SetAt w' bt Ft' [] ∧ ListAt w' b3 F3 O ∧
    SInc O ∧ (∀ k, k ∈ O ↔ k ∈ L ∨ k ∈ T) ∧ O.length ≤ L.length + T.length ∧ Chg (b :: Ft) w w' ∧ Grew w Ft Ft' ∧ (∀ k, k ∈ F3 → w.heap.size ≤ k) ∧ (∀ k, k ∈ Ft' → k ∉ F3)

set_option maxHeartbeats 4000000 in
set_option maxRecDepth 100000 in
/-- (*Sketch).mergeSparse, where there are keys. -/
theorem mergeSparse_any (w : World) (b p : Nat) (al : Nat) (bt : Nat) (Ft T : List Nat) (bl : Nat) (Fl L : List Nat) (rv : Value)
    (hb : Blk w b 59 #[.int .u8 (p : Int), .int .u32 ((2 ^ p : Nat) : Int), .float .f64 al, .pointer (some ⟨bt, 0, none⟩), .pointer (some ⟨bl, 0, none⟩), rv]) (hs : SetAt w bt Ft T) (hl : ListAt w bl Fl L)
    (hbt : b ∉ Ft) (hL : SInc L) (hT : T ≠ []) (hTn : T.length < 1000000) (hLn : L.length < 1000000) :
    Calls Tryz.prog 54 #[.pointer (some ⟨b, 0, none⟩)] w (MSp w b p al bt Ft T L rv) := by
  have c3 := hb.cell 3
  have c4 := hb.cell 4
  have hlt := hb.lt
  simp at c3 c4
  have hT0 : 0 < T.length := by
    rcases Nat.eq_zero_or_pos T.length with h | h
    · exact absurd (List.eq_nil_of_length_eq_zero h) hT
    · exact h
  have hT0' : ((T.length : Int) == 0) = false := by simp; omega
  have X := Lib.hid (And.intro hb (And.intro hs (And.intro hl (And.intro hbt hL))))
  clear hb hs hl hbt hL hT
  go_enter Tryz.func54, Tryz.ntmps54
  go_wp2_with fail
  refine (len53_any _ bt Ft T X.out.2.1).mono ?_
  rintro e w' ⟨rfl, rfl⟩
  go_wp2_with fail
  refine (len53_any _ bt Ft T (X.out.2.1.alloc _)).mono ?_
  rintro e w' ⟨rfl, rfl⟩
  go_wp2_with (at_make; refine wpMake0 A85 _ rfl _ _ rfl .i64 .i64 T.length rfl rfl (by omega) (by omega) ?_; intro w2 ho2 hg2; have hc2 : Chg [] w w2 := (((Chg.refl [] w).alloc _).alloc _).grown hg2 (by simp); have d3 := (X.out.1.chg hc2 (by simp)).cell 3; have hlt2 := (X.out.1.chg hc2 (by simp)).lt; simp at d3; have ho2' : w2.ownsRow 0 35 1 (.slice (some ⟨w.heap.size + 1 + 1, 0, none⟩) 0 T.length) 0 [] := (by simpa using ho2); have Y := Lib.hid (And.intro hc2 ho2'); clear ho2 hg2 hc2 ho2' c3 c4)
  obtain ⟨w3, hw3⟩ : ∃ w3, w3 = w2.alloc (.cells #[.slice (some ⟨w.heap.size + 1 + 1, 0, none⟩) 0 T.length] 85) := ⟨_, rfl⟩
  rw [← hw3]
  have hc3 : Chg [] w w3 := by rw [hw3]; exact Y.out.1.alloc _
  have hz2 := Y.out.1.size
  have hK3 : Keys w w3 w2.heap.size [] := by
    refine ⟨.slice (some ⟨w.heap.size + 1 + 1, 0, none⟩) 0 T.length, hc3, by rw [hw3]; exact Blk.new _ _ _, ?_, fun g hg => ?_, hz2⟩
    · rw [hw3]
      exact own_agree Y.out.2 (fun g hg => Below.heap_alloc _ _ _ (own_lt Y.out.2 hg))
    · simp [Value.ownBlock] at hg
      omega
  have hs3 : SetAt w3 bt Ft T := X.out.2.1.chg hc3 (by simp)
  obtain ⟨w4, hw4⟩ : ∃ w4, w4 = (w3.alloc (.cells #[.pointer (some ⟨bt, 0, none⟩)] 56)).alloc (.cells #[.func (.func 73) #[] #[.pointer (some ⟨w2.heap.size, 0, none⟩)]] 105) := ⟨_, rfl⟩
  have hb4 : Blk w4 (w3.heap.size + 1) 105 #[.func (.func 73) #[] #[.pointer (some ⟨w2.heap.size, 0, none⟩)]] := by rw [hw4]; simpa using Blk.new (w3.alloc (.cells #[.pointer (some ⟨bt, 0, none⟩)] 56)) 105 #[.func (.func 73) #[] #[.pointer (some ⟨w2.heap.size, 0, none⟩)]]
  have hK4 : Keys w w4 w2.heap.size [] := by
    obtain ⟨v, h1, h2, h3, h4, h5⟩ := hK3
    rw [hw4]
    exact ⟨v, (h1.alloc _).alloc _, (h2.alloc _).alloc _, own_agree h3 (fun g hg => (Below.heap_alloc _ _ _ (by have := own_lt h3 hg; simp; omega)).trans (Below.heap_alloc _ _ _ (own_lt h3 hg))), h4, h5⟩
  have hc4 : Chg [] w w4 := by rw [hw4]; exact (hc3.alloc _).alloc _
  have hcall := sforEach_any w3 bt Ft T hs3 73 #[.pointer (some ⟨w2.heap.size, 0, none⟩)] eg73 w4 hw4
    (fun l W => Keys w W w2.heap.size l ∧ Blk W (w3.heap.size + 1) 105 #[.func (.func 73) #[] #[.pointer (some ⟨w2.heap.size, 0, none⟩)]]) ⟨hK4, hb4⟩
    (fun l W hI => ⟨fun k hk => by
        obtain ⟨v, h1, _⟩ := hI.1
        have hk1 := X.out.2.1.lt k hk
        rw [h1.same hk1 (by simp), hc4.same hk1 (by simp)], hI.2.trans hb4.symm⟩) (by omega)
    (fun l k W hk ⟨r, hr⟩ hI => by
      have hl : l.length ≤ T.length := by rw [hr]; simp
      refine (app73_any w W w2.heap.size l k hI.1 (by omega)).mono ?_
      rintro e W' ⟨rfl, hK', hx⟩
      exact ⟨rfl, hK', hx _ _ _ hI.2 (by decide) (by decide)⟩)
  have HC := Lib.hid hcall
  have d3' : w3.cell? ⟨b, 3, none⟩ = some (.pointer (some ⟨bt, 0, none⟩)) := by rw [hw3, World.cell?_alloc_lt _ _ _ hlt2]; exact d3
  have hw3' := Lib.hid hw3
  clear hcall hb4 hK4 hc4 hs3 hK3 hc3 hw3 d3 hw4
  go_wp2_with fail
  refine HC.out.mono ?_
  rintro e w5 ⟨rfl, hK5, hdum⟩
  clear hdum
  obtain ⟨kv, hc5, hkb5, hko5, hkl5, hka⟩ := hK5
  clear HC hw3' d3' hlt2 hz2 Y
  obtain ⟨gk, cp, rfl⟩ : ∃ gk cp, kv = .slice (some ⟨gk, 0, none⟩) T.length cp := by
    rcases own_form hko5 with ⟨_, h0, _⟩ | ⟨g, c, h0, _⟩
    · rw [List.length_map] at h0; omega
    · exact ⟨g, c, by simpa using h0⟩
  generalize w2.heap.size = kb at hkb5 hka ⊢

  have hkn : (Value.slice (some ⟨gk, 0, none⟩) T.length cp) ≠ .slice none 0 0 := by intro e; injection e with _ e2 _; omega
  have dk := hkb5.cell 0
  simp at dk
  have hsort := sort_own w5 _ T hko5 hkn (by omega)
  have Y := Lib.hid (And.intro hc5 (And.intro hkb5 (And.intro hko5 (And.intro hkl5 hka))))
  have HS := Lib.hid hsort
  clear hc5 hkb5 hko5 hkl5 hka hkn hsort
  go_wp2_with fail
  refine HS.out.mono ?_
  rintro e w6 ⟨rfl, hc6, hko6⟩
  have hP : Chg [] w w6 ∧ Blk w6 kb 85 #[.slice (some ⟨gk, 0, none⟩) T.length cp] := by
    obtain ⟨hc5, hkb5, hko5, hkl5, hka⟩ := Y.out
    refine ⟨hc5.trans hc6 (fun k hk => .inr (hkl5 k (by simpa using hk))), hkb5.chg hc6 (fun hk => own_ne hko5 hkb5 (by decide) (by simpa using hk))⟩
  obtain ⟨hc6', hkb6⟩ := hP
  obtain ⟨K, hK⟩ : ∃ K, K = sorted T := ⟨_, rfl⟩
  rw [← hK] at hko6
  have hKl : K.length = T.length := by rw [hK]; exact (sorted_perm T).length_eq
  have hKm : ∀ k, k ∈ K ↔ k ∈ T := fun k => by rw [hK]; exact (sorted_perm T).mem_iff
  have hKs : SInc K := by
    obtain ⟨v, m, _, _, _, hnd, _⟩ := X.out.2.1
    have h1 : K.Nodup := by rw [hK]; exact (sorted_perm T).nodup_iff.2 hnd
    have h2 : K.Pairwise (· ≤ ·) := by rw [hK]; exact sorted_le T
    exact (List.Pairwise.and h1 h2).imp (fun {a b} h => by
      have := h.1
      have := h.2
      show a < b
      have : a ≠ b := h.1
      omega)
  have hKlt : ∀ k, k ∈ K → k < 4294967296 := fun k hk => by
    obtain ⟨v, m, _, _, _, _, hlt, _⟩ := X.out.2.1
    exact hlt k ((hKm k).1 hk)
  have hs6 : SetAt w6 bt Ft T := X.out.2.1.chg hc6' (by simp)
  have hl6 : ListAt w6 bl Fl L := X.out.2.2.1.chg hc6' (by simp)
  have hb6 := X.out.1.chg hc6' (by simp)
  have c3 := hb6.cell 3
  have c4 := hb6.cell 4
  simp at c3 c4
  obtain ⟨bn, hbn⟩ : ∃ bn, bn = (bytesOf L).length := ⟨_, rfl⟩
  have hbn5 : bn ≤ 5 * L.length := by rw [hbn]; exact (bytesFrom_len 0 L).2
  have hla53 : ∀ W : World, SetAt W bt Ft T → Calls Tryz.prog 53 #[.agg #[.pointer (some ⟨bt, 0, none⟩)]] W fun e w' => e = .returned (.int .i64 (T.length : Int)) ∧ W.alloc (.cells #[.pointer (some ⟨bt, 0, none⟩)] 56) = w' := fun W h => len53_any W bt Ft T h
  have hla55 : ∀ W : World, ListAt W bl Fl L → Calls Tryz.prog 55 #[.pointer (some ⟨bl, 0, none⟩)] W fun e w' => e = .returned (.int .i64 (bn : Int)) ∧ w' = W := fun W h => by rw [hbn]; exact llen_any W bl Fl L h
  have hw1 : IntKind.i64.wrap (4 * (T.length : Int)) = 4 * (T.length : Int) := IntWalk.i64_in _ (by omega)
  have hw2 : IntKind.i64.wrap (4 * (T.length : Int) + (bn : Int)) = 4 * (T.length : Int) + (bn : Int) := IntWalk.i64_in _ (by omega)
  have hq0 : 0 ≤ 4 * (T.length : Int) + (bn : Int) := by omega
  have hq1 : 4 * (T.length : Int) + (bn : Int) < 100000000 := by omega
  have hlt6 := hb6.lt
  have Z := Lib.hid (And.intro hc6' (And.intro hkb6 (And.intro hko6 (And.intro hKs (And.intro hKm (And.intro hKlt (And.intro hs6 (And.intro hl6 (And.intro hbn (And.intro hla53 hla55))))))))))
  have Z0 := Lib.hid hKl
  clear hc6' hkb6 hko6 hKs hKm hKlt hs6 hl6 hb6 hbn hla53 hla55 hK hc6 hKl HS dk
  go_wp2_with fail
  go_region_held3 (fun w' => w'.cell? ⟨b, 3, none⟩ = some (.pointer (some ⟨bt, 0, none⟩)) ∧ w'.cell? ⟨b, 4, none⟩ = some (.pointer (some ⟨bl, 0, none⟩)))
    (first | exact hKeep | go_keep)
    (first
     | (go_at_call 53; refine (Z.out.2.2.2.2.2.2.2.2.2.1 _ (by first | exact Z.out.2.2.2.2.2.2.1.agree (fun _ _ => rfl) | exact (Z.out.2.2.2.2.2.2.1.alloc _).agree (fun _ _ => rfl))).mono ?_; rintro e w' ⟨rfl, rfl⟩)
     | (go_at_call 55; refine (Z.out.2.2.2.2.2.2.2.2.2.2 _ (by first | exact Z.out.2.2.2.2.2.2.2.1.agree (fun _ _ => rfl) | exact (Z.out.2.2.2.2.2.2.2.1.alloc (.cells #[.pointer (some ⟨bt, 0, none⟩)] 56)).agree (fun _ _ => rfl))).mono ?_; rintro e w' ⟨rfl, rfl⟩)
     | (go_at_call 25; refine (newList_int _ _ hq0 hq1).mono ?_; rintro e w7 ⟨b3, F3, rfl, hl7, hc7, hg7⟩; have hc67 : Chg [] w6 w7 := (by first | exact (((Chg.refl [] w6).alloc _).drew.trans hc7 (by simp)) | exact (((Chg.refl [] w6).drew.alloc _).trans hc7 (by simp))); have hg67 : ∀ k, k ∈ F3 → w6.heap.size ≤ k := (fun k hk => by rcases hg7 k hk with h | h; simp at h; simp at h; omega); have hb7 := X.out.1.chg (Z.out.1.trans hc67 (by simp)) (by simp); have x3 := hb7.cell 3; have x4 := hb7.cell 4; simp at x3 x4; have hKeep : w7.cell? ⟨b, 3, none⟩ = some (.pointer (some ⟨bt, 0, none⟩)) ∧ w7.cell? ⟨b, 4, none⟩ = some (.pointer (some ⟨bl, 0, none⟩)) := ⟨x3, x4⟩; have W := Lib.hid (And.intro hl7 (And.intro hc67 hg67)); clear hl7 hc67 hg67 hc7 hg7 hb7))
  obtain ⟨hKl, hZ⟩ : Hid (K.length = T.length) ∧ True := ⟨Z0, trivial⟩
  clear hw1 hw2 hq0 hq1 hbn5 hZ c3 c4
  go_wp2_with fail
  refine (iter_any _ _).mono ?_
  rintro e w8 ⟨rfl, hc8⟩
  have V := Lib.hid hc8
  have hit : itV [] bl = #[.int .i64 0, .int .u32 0, .pointer (some ⟨bl, 0, none⟩)] := rfl
  rw [hit]
  clear hc8 x3 x4 hit
  go_wp2_with fail
  obtain ⟨w9, hw9⟩ : ∃ w9, w9 = w8.alloc (.cells (itV [] bl) 99) := ⟨_, rfl⟩
  have hw9' : w8.alloc (.cells #[.int .i64 0, .int .u32 0, .pointer (some ⟨bl, 0, none⟩)] 99) = w9 := hw9.symm
  rw [hw9']
  have hM9 : MSt w w9 kb (.slice (some ⟨gk, 0, none⟩) T.length cp) K w8.heap.size bl [] b3 F3 [] := by
    obtain ⟨hc5, hkb5, hko5, hkl5, hka⟩ := Y.out
    obtain ⟨hl7, hc67, hg67⟩ := W.out
    have h68 : Chg [] w6 w8 := hc67.trans V.out (by simp)
    have h08 : Chg [] w w8 := Z.out.1.trans h68 (by simp)
    have hz := Z.out.1.size
    have h78 := V.out.size
    have hkb8 := Z.out.2.1.chg h68 (by simp)
    have hko8 := own_agree Z.out.2.2.1 (fun g hg => h68.same (own_lt Z.out.2.2.1 hg) (by simp))
    have hl8 := hl7.chg V.out (by simp)
    rw [hw9]
    refine ⟨h08.alloc _, hkb8.alloc _, own_agree hko8 (fun g hg => Below.heap_alloc _ _ _ (own_lt hko8 hg)), Blk.new _ _ _, hl8.alloc _, hka, h08.size, hkl5, fun k hk => ?_⟩
    have h1 := hg67 k hk
    have h2 := hl8.lt k hk
    have h3 := Z.out.2.1.lt
    exact ⟨by omega, by omega, by omega, fun e => by have := own_lt Z.out.2.2.1 e; omega⟩
  have M9 := Lib.hid hM9
  clear hM9 hw9' hw9
  generalize w8.heap.size = it9 at M9 ⊢
  go_loopw [4, 5] (fun s4 s5 wr => ∃ (it : Nat) (pre rest : List Nat) (j : Nat) (O F3 : List Nat), s4 = .pointer (some ⟨it, 0, none⟩) ∧ s5 = .int .i64 (j : Int) ∧ Hid (MSt w wr kb (.slice (some ⟨gk, 0, none⟩) T.length cp) K it bl pre b3 F3 O ∧ MInv K L pre j rest O)) (fun s4 s5 wr => (bytesOf L).length - itAt wr s4 + (T.length - (intOf s5).toNat))
  case atStart => exact ⟨it9, [], L, 0, [], F3, rfl, rfl, M9.out, MInv.start K L⟩
  case round =>
    obtain ⟨it, pre, rest, j, O, F4, rfl, rfl, hI⟩ := hrel
    obtain ⟨i, hi⟩ : ∃ i, i = (bytesOf pre).length := ⟨_, rfl⟩
    obtain ⟨la, hla⟩ : ∃ la, la = pre.getLastD 0 := ⟨_, rfl⟩
    have HI := Lib.hid (And.intro hi hla)
    have hhas : ∀ W, ListAt W bl Fl L → Calls Tryz.prog 59 #[.agg #[.int .i64 (i : Int), .int .u32 (la : Int), .pointer (some ⟨bl, 0, none⟩)]] W fun e w' => e = .returned (.bool (decide (rest ≠ []))) ∧ Chg [] W w' := fun W hW => by
      rw [hi, hla]
      exact hasNext_any W bl Fl L pre rest hW hI.out.2.1
    have HH := Lib.hid hhas
    have Hwr := Lib.hid hI.out.1
    have hjT : j ≤ T.length := by have := hI.out.2.2.1; have := Z0.out; omega
    have hlen1 : ∀ (a c : List Nat), L = a ++ c → (bytesOf a).length ≤ (bytesOf L).length := fun a c h => by rw [h, bytesOf_append, List.length_append]; omega
    have hlp := hlen1 _ _ hI.out.2.1
    clear hi hla hhas
    rcases rest with _ | ⟨k, rest⟩
    · have hb0 : decide (([] : List Nat) ≠ []) = false := rfl
      rw [hb0] at HH
      by_cases hj : j < T.length
      · have HJ : Hid (j < K.length) := Lib.hid (by rw [Z0.out]; exact hj)
        obtain ⟨q, hq⟩ : ∃ q, q = K[j]'(HJ.out) := ⟨_, rfl⟩
        have hq32 : q < 4294967296 := by rw [hq]; exact Z.out.2.2.2.2.2.1 _ (List.getElem_mem _)
        have HQ := Lib.hid hq
        have HLEN : Hid ((bytesOf pre).length ≤ (bytesOf L).length) := Lib.hid hlp
        clear hq hlp hlen1
        have kcwr := Hwr.out.kcell
        obtain ⟨iawr, ibwr, icwr⟩ := Hwr.out.icells HI.out.1 HI.out.2
        have kywr := Hwr.out.key HJ.out
        rw [← HQ.out] at kywr
        go_wp2_with fail
        refine (HH.out wr (X.out.2.2.1.chg Hwr.out.1 (by simp))).mono ?_
        rintro e wa ⟨rfl, hc⟩
        have Hwa := Lib.hid (Hwr.out.chg hc)
        clear hc
        clear kcwr iawr ibwr icwr kywr
        have kcwa := Hwa.out.kcell
        obtain ⟨iawa, ibwa, icwa⟩ := Hwa.out.icells HI.out.1 HI.out.2
        have kywa := Hwa.out.key HJ.out
        rw [← HQ.out] at kywa
        go_wp2_with fail
        refine (HH.out wa (X.out.2.2.1.chg Hwa.out.1 (by simp))).mono ?_
        rintro e wb ⟨rfl, hc⟩
        have Hwb := Lib.hid (Hwa.out.chg hc)
        clear hc
        clear kcwa iawa ibwa icwa kywa
        have kcwb := Hwb.out.kcell
        obtain ⟨iawb, ibwb, icwb⟩ := Hwb.out.icells HI.out.1 HI.out.2
        have kywb := Hwb.out.key HJ.out
        rw [← HQ.out] at kywb
        go_wp2_with fail
        refine (lappend_any wb b3 F4 O q Hwb.out.2.2.2.2.1 hq32 (by have h1 := (bytesFrom_len 0 O).2; have h2 := hI.out.2.2.2.2.2.2.2; have h3 := hI.out.2.2.1; have h4 := congrArg List.length hI.out.2.1; rw [List.length_append] at h4; have h5 := Z0.out; show (bytesFrom 0 _).length < _; omega)).mono ?_
        rintro e wc ⟨F5, rfl, hl, hc, hg⟩
        have Hwc := Lib.hid (Hwb.out.app hl hc hg)
        clear hl hc hg
        clear kcwb iawb ibwb icwb kywb
        have kcwc := Hwc.out.kcell
        obtain ⟨iawc, ibwc, icwc⟩ := Hwc.out.icells HI.out.1 HI.out.2
        go_wp2_with fail
        go_roundw
        case rel =>
          have hv : itV (pre) bl = #[.int .i64 (i : Int), .int .u32 (la : Int), .pointer (some ⟨bl, 0, none⟩)] := by rw [itV, ← HI.out.1, ← HI.out.2]
          have hcp := Hwc.out.copy
          rw [hv] at hcp
          exact ⟨wc.heap.size, pre, [], j + 1, O ++ [q], F5, rfl, by first | rfl | go_num, hcp, (by have h := hI.out.2.right Z.out.2.2.2.1 HJ.out (by simp); rw [← HQ.out] at h; exact h)⟩
        case measure =>
          have hv : itV (pre) bl = #[.int .i64 (i : Int), .int .u32 (la : Int), .pointer (some ⟨bl, 0, none⟩)] := by rw [itV, ← HI.out.1, ← HI.out.2]
          have e1 := itAt_eq Hwc.out.copy.2.2.2.1
          rw [hv] at e1
          have e2 := itAt_eq hI.out.1.2.2.2.1
          show _ - itAt _ _ + (_ - _) < _ - itAt _ _ + (_ - _)
          rw [e1, e2]
          have := HLEN.out
          simp only [intOf]
          omega
      · have hjeq : T.length ≤ j := by omega
        clear hj hlp hlen1
        have kcwr := Hwr.out.kcell
        obtain ⟨iawr, ibwr, icwr⟩ := Hwr.out.icells HI.out.1 HI.out.2
        go_wp2_with fail
        refine (HH.out wr (X.out.2.2.1.chg Hwr.out.1 (by simp))).mono ?_
        rintro e wa ⟨rfl, hc⟩
        have Hwa := Lib.hid (Hwr.out.chg hc)
        clear hc
        clear kcwr iawr ibwr icwr
        have kcwa := Hwa.out.kcell
        obtain ⟨iawa, ibwa, icwa⟩ := Hwa.out.icells HI.out.1 HI.out.2
        have hba := X.out.1.chg Hwa.out.1 (by simp)
        have xa3 := hba.cell 3
        have xa4 := hba.cell 4
        have xf4 := hba.frozen 4
        have hba2 := hba.set_ 4 (.pointer (some ⟨b3, 0, none⟩))
        have xb3 := hba2.cell 3
        simp at xa3 xa4 xb3
        have HBA := Lib.hid hba2
        clear hba hba2
        go_wp2_with fail
        have hcb : Chg [b] w (wa.setCell ⟨b, 4, none⟩ (.pointer (some ⟨b3, 0, none⟩))) := (Hwa.out.1.mono (by simp)).setCell (.inl (by simp)) _
        have HCB := Lib.hid hcb
        refine (clear78_any _ bt Ft T (X.out.2.1.chg hcb (fun k hk => by simp; rintro rfl; exact X.out.2.2.2.1 hk))).mono ?_
        clear hcb
        rintro e wz ⟨Ft', rfl, hsz, hcz, hgz⟩
        have HZ := Lib.hid (And.intro hsz (And.intro hcz hgz))
        clear hsz hcz hgz
        go_wp2_with fail
        go_end0
        obtain ⟨hsz, hcz, hgz⟩ := HZ.out
        have hFtl := X.out.2.1.lt
        have hza := Hwa.out.1.size
        have hMa := Hwa.out
        have hjK : j = K.length := by have := hI.out.2.2.1; have := Z0.out; omega
        have hdone := hI.out.2
        rw [hjK] at hdone
        have hcb := HCB.out
        have hgz' : ∀ k, k ∈ Ft' → k ∈ Ft ∨ wa.heap.size ≤ k := fun k hk => by
          have := hgz k hk
          simpa [World.setCell] using this
        have hF4 : ∀ k, k ∈ F4 → w.heap.size ≤ k := fun k hk => (hMa.2.2.2.2.2.2.2.2 k hk).1
        refine ⟨b3, F4, O, Ft', rfl, by simpa using HBA.out.chg hcz X.out.2.2.2.1, hsz, ?_, hdone.done.1, fun k => ?_, ?_, ?_, ?_, hF4, fun k hk hk4 => ?_⟩
        · refine hMa.2.2.2.2.1.agree (fun k hk => ?_)
          have h1 := hF4 k hk
          have h2 := hMa.2.2.2.2.1.lt k hk
          rw [hcz.same (by simpa [World.setCell] using h2) (fun h => by have := hFtl k h; omega), Below.heap_setCell _ _ _ _ (by show k ≠ b; omega)]
        · rw [hdone.done.2 k, Z.out.2.2.2.2.1 k]
        · have h2 := hI.out.2.2.2.2.2.2.2
          have h4 := congrArg List.length hI.out.2.1
          rw [List.length_append] at h4
          omega
        · exact (hcb.mono (by simp)).trans hcz (fun k hk => .inl (by simp [hk]))
        · intro k hk
          exact (hgz' k hk).imp id (fun h => by omega)
        · have h1 := hF4 k hk4
          have h2 := hMa.2.2.2.2.1.lt k hk4
          rcases hgz' k hk with h | h
          · have := hFtl k h; omega
          · omega
    · have hb0 : decide ((k :: rest) ≠ []) = true := by simp
      rw [hb0] at HH
      have hkL : k ∈ L := by rw [hI.out.2.1]; simp
      have hk32 : k < 4294967296 := by
        obtain ⟨v, _, _, hlt, _⟩ := X.out.2.2.1
        exact hlt k hkL
      obtain ⟨i2, hi2⟩ : ∃ i2, i2 = (bytesOf (pre ++ [k])).length := ⟨_, rfl⟩
      have hlp2 := hlen1 (pre ++ [k]) rest (by rw [hI.out.2.1]; simp)
      have hgt : (bytesOf pre).length < (bytesOf (pre ++ [k])).length := (bytesOf_lt_iff pre [k]).2 (by simp)
      have HI2 : Hid (i2 = (bytesOf (pre ++ [k])).length ∧ k = (pre ++ [k]).getLastD 0) := Lib.hid ⟨hi2, (getLastD_append_one _ _ _).symm⟩
      have HLN : Hid ((bytesOf L).length < 90000000) := Lib.hid (by have := (bytesFrom_len 0 L).2; show (bytesFrom 0 L).length < _; omega)
      clear hi2 hkL hlen1
      by_cases hj : j < T.length
      · have HJ : Hid (j < K.length) := Lib.hid (by rw [Z0.out]; exact hj)
        obtain ⟨q, hq⟩ : ∃ q, q = K[j]'(HJ.out) := ⟨_, rfl⟩
        have hq32 : q < 4294967296 := by rw [hq]; exact Z.out.2.2.2.2.2.1 _ (List.getElem_mem _)
        have HQ := Lib.hid hq
        have HLEN : Hid ((bytesOf pre).length < (bytesOf (pre ++ [k])).length ∧ (bytesOf (pre ++ [k])).length ≤ (bytesOf L).length) := Lib.hid ⟨hgt, hlp2⟩
        have htail : Hid (∀ c, c ∈ rest → k < c) := Lib.hid (tail_lt (by have h := X.out.2.2.2.2; rw [hI.out.2.1] at h; exact (List.pairwise_append.1 h).2.1))
        have hKd : Hid (K.drop j = K[j]'(HJ.out) :: K.drop (j + 1) ∧ SInc (K.drop j)) := Lib.hid ⟨drop_cons HJ.out, List.Pairwise.sublist (List.drop_sublist _ _) Z.out.2.2.2.1⟩
        clear hgt hlp hlp2 hq
        have kcwr := Hwr.out.kcell
        obtain ⟨iawr, ibwr, icwr⟩ := Hwr.out.icells HI.out.1 HI.out.2
        have kywr := Hwr.out.key HJ.out
        rw [← HQ.out] at kywr
        go_wp2_with fail
        refine (HH.out wr (X.out.2.2.1.chg Hwr.out.1 (by simp))).mono ?_
        rintro e wa ⟨rfl, hc⟩
        have Hwa := Lib.hid (Hwr.out.chg hc)
        clear hc
        clear kcwr iawr ibwr icwr kywr
        have kcwa := Hwa.out.kcell
        obtain ⟨iawa, ibwa, icwa⟩ := Hwa.out.icells HI.out.1 HI.out.2
        have kywa := Hwa.out.key HJ.out
        rw [← HQ.out] at kywa
        go_wp2_with fail
        refine (HH.out wa (X.out.2.2.1.chg Hwa.out.1 (by simp))).mono ?_
        rintro e wb ⟨rfl, hc⟩
        have Hwb := Lib.hid (Hwa.out.chg hc)
        clear hc
        clear kcwa iawa ibwa icwa kywa
        have kcwb := Hwb.out.kcell
        obtain ⟨iawb, ibwb, icwb⟩ := Hwb.out.icells HI.out.1 HI.out.2
        have kywb := Hwb.out.key HJ.out
        rw [← HQ.out] at kywb
        go_wp2_with fail
        have hpk := peek_any wb it bl Fl L pre rest k (X.out.2.2.1.chg Hwb.out.1 (by simp)) hI.out.2.1 Hwb.out.2.2.2.1 (by have := HLN.out; omega)
        rw [← HI2.out.1] at hpk
        refine hpk.mono ?_
        clear hpk
        rintro e wd ⟨rfl, n, hwd⟩
        have Hwd : Hid (MSt w wd kb (.slice (some ⟨gk, 0, none⟩) T.length cp) K it bl pre b3 F4 O) := Lib.hid (by rw [hwd]; exact Hwb.out.chg ((Chg.refl _ _).drewN _))
        clear hwd
        clear kcwb iawb ibwb icwb kywb
        have kcwd := Hwd.out.kcell
        obtain ⟨iawd, ibwd, icwd⟩ := Hwd.out.icells HI.out.1 HI.out.2
        have kywd := Hwd.out.key HJ.out
        rw [← HQ.out] at kywd
        by_cases hkq : k = q
        · have hqk : ((k : Int) == (q : Int)) = true := by simp [hkq]
          have HKQ := Lib.hid hkq
          clear hkq
          go_wp2_with fail
          refine (lappend_any wd b3 F4 O k Hwd.out.2.2.2.2.1 hk32 (by have h1 := (bytesFrom_len 0 O).2; have h2 := hI.out.2.2.2.2.2.2.2; have h3 := hI.out.2.2.1; have h4 := congrArg List.length hI.out.2.1; rw [List.length_append] at h4; have h5 := Z0.out; show (bytesFrom 0 _).length < _; omega)).mono ?_
          rintro e we ⟨F5, rfl, hl, hc, hg⟩
          have Hwe := Lib.hid (Hwd.out.app hl hc hg)
          clear hl hc hg
          clear kcwd iawd ibwd icwd kywd
          have kcwe := Hwe.out.kcell
          obtain ⟨iawe, ibwe, icwe⟩ := Hwe.out.icells HI.out.1 HI.out.2
          have kywe := Hwe.out.key HJ.out
          rw [← HQ.out] at kywe
          go_wp2_with fail
          have had := advance_any we it bl pre k Hwe.out.2.2.2.1
          rw [← HI2.out.1] at had
          refine had.mono ?_
          clear had
          rintro e wf ⟨rfl, hc, hb⟩
          have Hwf := Lib.hid (Hwe.out.it_ hb hc)
          clear hc hb
          clear kcwe iawe ibwe icwe kywe
          have kcwf := Hwf.out.kcell
          obtain ⟨iawf, ibwf, icwf⟩ := Hwf.out.icells HI2.out.1 HI2.out.2
          go_wp2_with fail
          go_roundw
          case rel =>
            have hv : itV (pre ++ [k]) bl = #[.int .i64 (i2 : Int), .int .u32 (k : Int), .pointer (some ⟨bl, 0, none⟩)] := by rw [itV, ← HI2.out.1, ← HI2.out.2]
            have hcp := Hwf.out.copy
            rw [hv] at hcp
            exact ⟨wf.heap.size, pre ++ [k], rest, j + 1, O ++ [k], F5, rfl, by first | rfl | go_num, hcp, (hI.out.2.both X.out.2.2.2.2 Z.out.2.2.2.1 HJ.out (HKQ.out.trans HQ.out))⟩
          case measure =>
            have hv : itV (pre ++ [k]) bl = #[.int .i64 (i2 : Int), .int .u32 (k : Int), .pointer (some ⟨bl, 0, none⟩)] := by rw [itV, ← HI2.out.1, ← HI2.out.2]
            have e1 := itAt_eq Hwf.out.copy.2.2.2.1
            rw [hv] at e1
            have e2 := itAt_eq hI.out.1.2.2.2.1
            show _ - itAt _ _ + (_ - _) < _ - itAt _ _ + (_ - _)
            rw [e1, e2]
            have := HLEN.out
            simp only [intOf]
            omega
        · have hqk : ((k : Int) == (q : Int)) = false := by simp; omega
          by_cases hgt : q < k
          · have HGT : Hid (q < k) := hgt
            go_wp2_with fail
            refine (lappend_any wd b3 F4 O q Hwd.out.2.2.2.2.1 hq32 (by have h1 := (bytesFrom_len 0 O).2; have h2 := hI.out.2.2.2.2.2.2.2; have h3 := hI.out.2.2.1; have h4 := congrArg List.length hI.out.2.1; rw [List.length_append] at h4; have h5 := Z0.out; show (bytesFrom 0 _).length < _; omega)).mono ?_
            rintro e we ⟨F5, rfl, hl, hc, hg⟩
            have Hwe := Lib.hid (Hwd.out.app hl hc hg)
            clear hl hc hg
            clear kcwd iawd ibwd icwd kywd
            have kcwe := Hwe.out.kcell
            obtain ⟨iawe, ibwe, icwe⟩ := Hwe.out.icells HI.out.1 HI.out.2
            go_wp2_with fail
            go_roundw
            case rel =>
              have hv : itV (pre) bl = #[.int .i64 (i : Int), .int .u32 (la : Int), .pointer (some ⟨bl, 0, none⟩)] := by rw [itV, ← HI.out.1, ← HI.out.2]
              have hcp := Hwe.out.copy
              rw [hv] at hcp
              exact ⟨we.heap.size, pre, k :: rest, j + 1, O ++ [q], F5, rfl, by first | rfl | go_num, hcp, (by have h := hI.out.2.right Z.out.2.2.2.1 HJ.out (fun c hc => by rw [← HQ.out]; rcases List.mem_cons.1 hc with rfl | hc; exact HGT.out; have := htail.out c hc; have := HGT.out; omega); rw [← HQ.out] at h; exact h)⟩
            case measure =>
              have hv : itV (pre) bl = #[.int .i64 (i : Int), .int .u32 (la : Int), .pointer (some ⟨bl, 0, none⟩)] := by rw [itV, ← HI.out.1, ← HI.out.2]
              have e1 := itAt_eq Hwe.out.copy.2.2.2.1
              rw [hv] at e1
              have e2 := itAt_eq hI.out.1.2.2.2.1
              show _ - itAt _ _ + (_ - _) < _ - itAt _ _ + (_ - _)
              rw [e1, e2]
              have := HLEN.out
              simp only [intOf]
              omega
          · have HGT : Hid (k < q) := Lib.hid (by omega)
            go_wp2_with fail
            refine (lappend_any wd b3 F4 O k Hwd.out.2.2.2.2.1 hk32 (by have h1 := (bytesFrom_len 0 O).2; have h2 := hI.out.2.2.2.2.2.2.2; have h3 := hI.out.2.2.1; have h4 := congrArg List.length hI.out.2.1; rw [List.length_append] at h4; have h5 := Z0.out; show (bytesFrom 0 _).length < _; omega)).mono ?_
            rintro e we ⟨F5, rfl, hl, hc, hg⟩
            have Hwe := Lib.hid (Hwd.out.app hl hc hg)
            clear hl hc hg
            clear kcwd iawd ibwd icwd kywd
            have kcwe := Hwe.out.kcell
            obtain ⟨iawe, ibwe, icwe⟩ := Hwe.out.icells HI.out.1 HI.out.2
            have kywe := Hwe.out.key HJ.out
            rw [← HQ.out] at kywe
            go_wp2_with fail
            have had := advance_any we it bl pre k Hwe.out.2.2.2.1
            rw [← HI2.out.1] at had
            refine had.mono ?_
            clear had
            rintro e wf ⟨rfl, hc, hb⟩
            have Hwf := Lib.hid (Hwe.out.it_ hb hc)
            clear hc hb
            clear kcwe iawe ibwe icwe kywe
            have kcwf := Hwf.out.kcell
            obtain ⟨iawf, ibwf, icwf⟩ := Hwf.out.icells HI2.out.1 HI2.out.2
            go_wp2_with fail
            go_roundw
            case rel =>
              have hv : itV (pre ++ [k]) bl = #[.int .i64 (i2 : Int), .int .u32 (k : Int), .pointer (some ⟨bl, 0, none⟩)] := by rw [itV, ← HI2.out.1, ← HI2.out.2]
              have hcp := Hwf.out.copy
              rw [hv] at hcp
              exact ⟨wf.heap.size, pre ++ [k], rest, j, O ++ [k], F5, rfl, by first | rfl | go_num, hcp, (hI.out.2.left X.out.2.2.2.2 (fun c hc => by rw [hKd.out.1, ← HQ.out] at hc; have h2 := hKd.out.2; rw [hKd.out.1, ← HQ.out] at h2; rcases List.mem_cons.1 hc with rfl | hc; exact HGT.out; have := tail_lt h2 c hc; have := HGT.out; omega))⟩
            case measure =>
              have hv : itV (pre ++ [k]) bl = #[.int .i64 (i2 : Int), .int .u32 (k : Int), .pointer (some ⟨bl, 0, none⟩)] := by rw [itV, ← HI2.out.1, ← HI2.out.2]
              have e1 := itAt_eq Hwf.out.copy.2.2.2.1
              rw [hv] at e1
              have e2 := itAt_eq hI.out.1.2.2.2.1
              show _ - itAt _ _ + (_ - _) < _ - itAt _ _ + (_ - _)
              rw [e1, e2]
              have := HLEN.out
              simp only [intOf]
              omega
      · have HLEN : Hid ((bytesOf pre).length < (bytesOf (pre ++ [k])).length ∧ (bytesOf (pre ++ [k])).length ≤ (bytesOf L).length) := Lib.hid ⟨hgt, hlp2⟩
        clear hgt hlp hlp2
        have hjeq : T.length ≤ j := by omega
        clear hj
        have kcwr := Hwr.out.kcell
        obtain ⟨iawr, ibwr, icwr⟩ := Hwr.out.icells HI.out.1 HI.out.2
        go_wp2_with fail
        refine (HH.out wr (X.out.2.2.1.chg Hwr.out.1 (by simp))).mono ?_
        rintro e wa ⟨rfl, hc⟩
        have Hwa := Lib.hid (Hwr.out.chg hc)
        clear hc
        clear kcwr iawr ibwr icwr
        have kcwa := Hwa.out.kcell
        obtain ⟨iawa, ibwa, icwa⟩ := Hwa.out.icells HI.out.1 HI.out.2
        go_wp2_with fail
        refine (HH.out wa (X.out.2.2.1.chg Hwa.out.1 (by simp))).mono ?_
        rintro e wb ⟨rfl, hc⟩
        have Hwb := Lib.hid (Hwa.out.chg hc)
        clear hc
        clear kcwa iawa ibwa icwa
        have kcwb := Hwb.out.kcell
        obtain ⟨iawb, ibwb, icwb⟩ := Hwb.out.icells HI.out.1 HI.out.2
        go_wp2_with fail
        refine (next_any wb it bl Fl L pre rest k (X.out.2.2.1.chg Hwb.out.1 (by simp)) hI.out.2.1 Hwb.out.2.2.2.1 (by have := HLN.out; omega)).mono ?_
        rintro e wc ⟨rfl, hc, hb⟩
        have Hwc := Lib.hid (Hwb.out.it_ hb hc)
        clear hc hb
        clear kcwb iawb ibwb icwb
        have kcwc := Hwc.out.kcell
        obtain ⟨iawc, ibwc, icwc⟩ := Hwc.out.icells HI2.out.1 HI2.out.2
        go_wp2_with fail
        refine (lappend_any wc b3 F4 O k Hwc.out.2.2.2.2.1 hk32 (by have h1 := (bytesFrom_len 0 O).2; have h2 := hI.out.2.2.2.2.2.2.2; have h3 := hI.out.2.2.1; have h4 := congrArg List.length hI.out.2.1; rw [List.length_append] at h4; have h5 := Z0.out; show (bytesFrom 0 _).length < _; omega)).mono ?_
        rintro e wd ⟨F5, rfl, hl, hc, hg⟩
        have Hwd := Lib.hid (Hwc.out.app hl hc hg)
        clear hl hc hg
        clear kcwc iawc ibwc icwc
        have kcwd := Hwd.out.kcell
        obtain ⟨iawd, ibwd, icwd⟩ := Hwd.out.icells HI2.out.1 HI2.out.2
        go_wp2_with fail
        go_roundw
        case rel =>
          have hv : itV (pre ++ [k]) bl = #[.int .i64 (i2 : Int), .int .u32 (k : Int), .pointer (some ⟨bl, 0, none⟩)] := by rw [itV, ← HI2.out.1, ← HI2.out.2]
          have hcp := Hwd.out.copy
          rw [hv] at hcp
          exact ⟨wd.heap.size, pre ++ [k], rest, j, O ++ [k], F5, rfl, by first | rfl | go_num, hcp, (hI.out.2.left X.out.2.2.2.2 (fun c hc => by rw [List.drop_eq_nil_of_le (by rw [Z0.out]; omega)] at hc; simp at hc))⟩
        case measure =>
          have hv : itV (pre ++ [k]) bl = #[.int .i64 (i2 : Int), .int .u32 (k : Int), .pointer (some ⟨bl, 0, none⟩)] := by rw [itV, ← HI2.out.1, ← HI2.out.2]
          have e1 := itAt_eq Hwd.out.copy.2.2.2.1
          rw [hv] at e1
          have e2 := itAt_eq hI.out.1.2.2.2.1
          show _ - itAt _ _ + (_ - _) < _ - itAt _ _ + (_ - _)
          rw [e1, e2]
          have := HLEN.out
          simp only [intOf]
          omega
end Go.Proofs.YtgoliddhhichgaaGreatDoor
