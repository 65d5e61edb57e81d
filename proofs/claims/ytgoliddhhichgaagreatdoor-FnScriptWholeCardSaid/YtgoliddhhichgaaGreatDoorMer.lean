/- The walk of mergeSparseSketch. The walk of mergeDenseSketch. The walk of mergeDenseSketch: a sparse sketch into a dense one. The walk of Merge. -/
import Derived.Test.YtgoliddhhichgaaGreatDoorSkG
/-! ### The walk of mergeSparseSketch. -/
namespace Go.Proofs.YtgoliddhhichgaaGreatDoor
open Go.RowKit Pl

/-- Memory in the loop that adds a list's keys to a set. -/
def ASt (w wr : World) (bt : Nat) (Ft Ft' T' : List Nat) (it bl : Nat) (pre : List Nat) : Prop :=
  Chg Ft w wr ∧ SetAt wr bt Ft' T' ∧ Grew w Ft Ft' ∧ Blk wr it 99 (itV pre bl) ∧ w.heap.size ≤ it ∧ it ∉ Ft'
section
variable {w wr w' : World} {bt it bl : Nat} {Ft Ft' T' pre : List Nat}
theorem ASt.chg (h : ASt w wr bt Ft Ft' T' it bl pre) (hc : Chg [] wr w') : ASt w w' bt Ft Ft' T' it bl pre := by
  obtain ⟨h1, h2, h3, h4, h5, h6⟩ := h
  exact ⟨h1.trans hc (by simp), h2.chg hc (by simp), h3, h4.chg hc (by simp), h5, h6⟩
theorem ASt.it_ (h : ASt w wr bt Ft Ft' T' it bl pre) {pre' : List Nat} (hb : Blk w' it 99 (itV pre' bl)) (hc : Chg [it] wr w') : ASt w w' bt Ft Ft' T' it bl pre' := by
  obtain ⟨h1, h2, h3, h4, h5, h6⟩ := h
  exact ⟨h1.trans hc (fun k hk => .inr (by simp at hk; omega)), h2.chg hc (fun k hk => by simp; rintro rfl; exact h6 hk), h3, hb, h5, h6⟩
theorem ASt.add (h : ASt w wr bt Ft Ft' T' it bl pre) {Fn Tn : List Nat} (hs : SetAt w' bt Fn Tn) (hc : Chg Ft' wr w') (hg : Grew wr Ft' Fn) : ASt w w' bt Ft Fn Tn it bl pre := by
  obtain ⟨h1, h2, h3, h4, h5, h6⟩ := h
  have hz := h1.size
  refine ⟨h1.trans hc h3, hs, fun k hk => ?_, h4.chg hc h6, h5, fun hk => ?_⟩
  · rcases hg k hk with h | h
    · exact h3 k h
    · exact .inr (by omega)
  · rcases hg it hk with h | h
    · exact h6 h
    · have := h4.lt; omega
theorem ASt.copy (h : ASt w wr bt Ft Ft' T' it bl pre) : ASt w (wr.alloc (.cells (itV pre bl) 99)) bt Ft Ft' T' wr.heap.size bl pre := by
  obtain ⟨h1, h2, h3, h4, h5, h6⟩ := h
  exact ⟨h1.alloc _, h2.alloc _, h3, Blk.new _ _ _, h1.size, fun hk => by have := h2.lt _ hk; omega⟩
end
theorem it_cells {wr : World} {it bl : Nat} {pre : List Nat} (h4 : Blk wr it 99 (itV pre bl)) {i la : Nat} (hi : i = (bytesOf pre).length) (hla : la = pre.getLastD 0) :
    wr.cell? ⟨it, 0, none⟩ = some (.int .i64 (i : Int)) ∧ wr.cell? ⟨it, 1, none⟩ = some (.int .u32 (la : Int)) ∧ wr.cell? ⟨it, 2, none⟩ = some (.pointer (some ⟨bl, 0, none⟩)) := by
  subst hi; subst hla
  have c0 := h4.cell 0
  have c1 := h4.cell 1
  have c2 := h4.cell 2
  simp [itV] at c0 c1 c2
  exact ⟨c0, by simpa [List.getLastD_eq_getLast?] using c1, c2⟩

set_option maxHeartbeats 4000000 in
set_option maxRecDepth 100000 in
/-- (*Sketch).mergeSparseSketch. -/
theorem mergeSS_any (w : World) (b b2 p : Nat) (F T L F2 T2 L2 : List Nat) (H H2 : Nat → Prop) (h4 : 4 ≤ p) (h10 : p ≤ 10) (h : SkAt w b F p (.sparse T L)) (hsay : Says p H (.sparse T L)) (hH : Hs H)
    (h2 : SkAt w b2 F2 p (.sparse T2 L2)) (hsay2 : Says p H2 (.sparse T2 L2)) (hH2 : Hs H2) (hd : ∀ k, k ∈ F2 → k ∉ F) :
    Calls Tryz.prog 33 #[.pointer (some ⟨b, 0, none⟩), .pointer (some ⟨b2, 0, none⟩)] w (Left w b F p (fun y => H y ∨ H2 y)) := by
  have hskat := h
  have hskat2 := h2
  obtain ⟨al, bt, Ft, bl, Fl, hb, hs, hl, hF, hFn⟩ := h
  obtain ⟨al2, bt2, Ft2, bl2, Fl2, hb2, hs2, hl2, hF2, hFn2⟩ := h2
  have c3 := hb.cell 3
  have e3 := hb2.cell 3
  have hlt := hb.lt
  have hlt2 := hb2.lt
  simp at c3 e3
  have h2p : 2 ^ p ≤ 2 ^ 10 := Nat.pow_le_pow_right (by omega) h10
  have hTn : T.length ≤ 10 := by have h1 := hsay.2.1; omega
  have hTn2 : T2.length ≤ 10 := by have h1 := hsay2.2.1; omega
  have hLn2 : L2.length ≤ 1024 := by
    have h1 := (bytesFrom_len 0 L2).1
    have h3 := hsay2.2.2.1
    unfold bytesOf at h3
    omega
  have hnd := hFn
  rw [hF, List.nodup_cons, List.mem_append, List.nodup_append] at hnd
  obtain ⟨hn1, hn2, hn3, hn4⟩ := hnd
  have hbt : b ∉ Ft := fun h => hn1 (.inl h)
  have hbl : b ∉ Fl := fun h => hn1 (.inr h)
  have hd1 : ∀ k, k ∈ F2 → k ∉ Ft := fun k hk hkt => hd k hk (by rw [hF]; simp [hkt])
  have hb2F : b2 ∈ F2 := hskat2.mem
  have hmer := fun W (hW : SetAt W bt Ft T) (hW2 : SetAt W bt2 Ft2 T2) => smerge_any W bt bt2 Ft Ft2 T T2 hW hW2 (fun k hk => hd1 k (by rw [hF2]; simp [hk])) (by omega)
  have X := Lib.hid (And.intro hskat (And.intro hb (And.intro hs (And.intro hl (And.intro hF (And.intro hbt (And.intro hbl (And.intro hn4 hsay))))))))
  have X2 := Lib.hid (And.intro hskat2 (And.intro hb2 (And.intro hs2 (And.intro hl2 (And.intro hF2 (And.intro hd1 (And.intro hb2F hsay2)))))))
  have HM := Lib.hid hmer
  have HHs := Lib.hid (And.intro hH hH2)
  clear hskat hb hs hl hF hFn hn1 hn2 hn3 hn4 hbt hbl hsay hskat2 hb2 hs2 hl2 hF2 hFn2 hd1 hb2F hsay2 hmer hd hH hH2
  go_enter Tryz.func33, Tryz.ntmps33
  go_wp2_with fail
  go_region_held3 (fun w' => w'.cell? ⟨b, 3, none⟩ = some (.pointer (some ⟨bt, 0, none⟩)) ∧ w'.cell? ⟨b2, 3, none⟩ = some (.pointer (some ⟨bt2, 0, none⟩))) (first | exact hKeep | go_keep)
    (first
      | (go_at_call 57; go_must (refine (HM.out _ (show SetAt w.drew bt Ft T from X.out.2.2.1.agree (fun _ _ => rfl)) (show SetAt w.drew bt2 Ft2 T2 from X2.out.2.2.1.agree (fun _ _ => rfl))).mono ?_); rintro e w3 ⟨rfl, Ft3, hs3, hc3, hg3⟩; have hb3 := (X.out.2.1.drew.chg hc3 X.out.2.2.2.2.2.1); have hb4 := (X2.out.2.1.drew.chg hc3 (X2.out.2.2.2.2.2.1 _ X2.out.2.2.2.2.2.2.1)); have x3 := hb3.cell 3; have y3 := hb4.cell 3; simp at x3 y3; have hKeep : w3.cell? ⟨b, 3, none⟩ = some (.pointer (some ⟨bt, 0, none⟩)) ∧ w3.cell? ⟨b2, 3, none⟩ = some (.pointer (some ⟨bt2, 0, none⟩)) := ⟨x3, y3⟩; have y4 := hb4.cell 4; simp at y4; have Y := Lib.hid (And.intro hs3 (And.intro hc3 (And.intro hg3 (And.intro hb3 hb4)))); clear hs3 hc3 hg3 hb3 hb4 x3 y3))
  clear hKeep c3 e3
  go_wp2_with fail
  refine (iter_any _ _).mono ?_
  rintro e w4 ⟨rfl, hc4⟩
  have hit : itV [] bl2 = #[.int .i64 0, .int .u32 0, .pointer (some ⟨bl2, 0, none⟩)] := rfl
  rw [hit]
  have HC4 := Lib.hid hc4
  clear hc4 hit y4
  go_wp2_with fail
  have hA : ASt w (w4.alloc (.cells #[.int .i64 0, .int .u32 0, .pointer (some ⟨bl2, 0, none⟩)] 99)) bt Ft Ft3 (T2.foldl ins T) w4.heap.size bl2 [] := by
    obtain ⟨hs3, hc3, hg3, _, _⟩ := Y.out
    have hc : Chg Ft w w4 := ((Chg.refl Ft w).drew.trans hc3 (fun k hk => .inl hk)).trans HC4.out (by simp)
    have hs4 := hs3.chg HC4.out (by simp)
    exact ⟨hc.alloc _, hs4.alloc _, fun k hk => (hg3 k hk).imp id (fun h => by simpa using h), Blk.new _ _ _, hc.size, fun hk => by have := hs4.lt _ hk; omega⟩
  have A0 := Lib.hid hA
  clear hA
  generalize w4.alloc (.cells #[.int .i64 0, .int .u32 0, .pointer (some ⟨bl2, 0, none⟩)] 99) = w5 at A0 ⊢
  generalize w4.heap.size = it5 at A0 ⊢
  go_loopw [4] (fun s4 wr => ∃ (it : Nat) (pre rest Ft' T' : List Nat), s4 = .pointer (some ⟨it, 0, none⟩) ∧ Hid (ASt w wr bt Ft Ft' T' it bl2 pre ∧ L2 = pre ++ rest ∧ T'.length ≤ 20 + pre.length ∧ (∀ k, k ∈ T' ↔ k ∈ T ∨ k ∈ T2 ∨ k ∈ pre))) (fun s4 wr => (bytesOf L2).length - itAt wr s4)
  case atStart =>
    refine ⟨it5, [], L2, Ft3, _, rfl, A0.out, rfl, ?_, fun k => by rw [mem_insAll]; simp⟩
    have := insAll_len T2 T
    omega
  case round =>
    obtain ⟨it, pre, rest, Ft', T', rfl, hI⟩ := hrel
    obtain ⟨i, hi⟩ : ∃ i, i = (bytesOf pre).length := ⟨_, rfl⟩
    obtain ⟨la, hla⟩ : ∃ la, la = pre.getLastD 0 := ⟨_, rfl⟩
    have HI := Lib.hid (And.intro hi hla)
    have HLW : ∀ W, Chg Ft w W → ListAt W bl2 Fl2 L2 := fun W h => X2.out.2.2.2.1.chg h (fun k hk => X2.out.2.2.2.2.2.1 k (by rw [X2.out.2.2.2.2.1]; simp [hk]))
    have HBW : ∀ W, Chg Ft w W → W.cell? ⟨b, 3, none⟩ = some (.pointer (some ⟨bt, 0, none⟩)) := fun W h => by
      have := (X.out.2.1.chg h X.out.2.2.2.2.2.1).cell 3
      simpa using this
    have HW := Lib.hid (And.intro HLW HBW)
    have hhas : ∀ W, ListAt W bl2 Fl2 L2 → Calls Tryz.prog 59 #[.agg #[.int .i64 (i : Int), .int .u32 (la : Int), .pointer (some ⟨bl2, 0, none⟩)]] W fun e w' => e = .returned (.bool (decide (rest ≠ []))) ∧ Chg [] W w' := fun W hW => by
      rw [hi, hla]
      exact hasNext_any W bl2 Fl2 L2 pre rest hW hI.out.2.1
    have HH := Lib.hid hhas
    have Hwr := Lib.hid hI.out.1
    have hprel : pre.length ≤ 1024 := by have := congrArg List.length hI.out.2.1; rw [List.length_append] at this; omega
    have hTl : T'.length ≤ 2000 := by have := hI.out.2.2.1; omega
    clear hi hla hhas HLW HBW hprel
    obtain ⟨iawr, ibwr, icwr⟩ := it_cells Hwr.out.2.2.2.1 HI.out.1 HI.out.2
    rcases rest with _ | ⟨k, rest⟩
    · have hb0 : decide (([] : List Nat) ≠ []) = false := rfl
      rw [hb0] at HH
      go_wp2_with fail
      refine (HH.out wr (HW.out.1 _ Hwr.out.1)).mono ?_
      rintro e wa ⟨rfl, hc⟩
      have Hwa := Lib.hid (Hwr.out.chg hc)
      clear hc iawr ibwr icwr
      go_wp2_with fail
      have hsk : SkAt wa b (b :: (Ft' ++ Fl)) p (.sparse T' L) ∧ Chg F w wa ∧ Grew w F (b :: (Ft' ++ Fl)) ∧ KeysOf p (fun y => H y ∨ H2 y) (fun k => k ∈ T' ∨ k ∈ L) := by
        obtain ⟨hskat, hb, hs, hl, hF, hbt, hbl, hn4, hsay⟩ := X.out
        obtain ⟨a1, a2, a3, a4, a5, a6⟩ := Hwa.out
        have hLpre : L2 = pre := by have := hI.out.2.1; simpa using this
        refine ⟨SkAt.mk (hb.chg a1 hbt) a2 (hl.chg a1 (fun k hk hkt => hn4 k hkt k hk rfl)) (fun h => ?_) hbl (fun k hk hkl => ?_), ?_, ?_, fun k => ?_⟩
        · rcases a3 b h with h | h
          · exact hbt h
          · omega
        · rcases a3 k hk with h | h
          · exact hn4 k h k hkl rfl
          · have := hl.lt k hkl; omega
        · exact a1.mono (fun k hk => by rw [hF]; simp [hk])
        · intro k hk
          rw [hF]
          rcases List.mem_cons.1 hk with rfl | hk
          · exact .inl (by simp)
          · rcases List.mem_append.1 hk with hk | hk
            · exact (a3 k hk).imp (fun h => by simp [h]) id
            · exact .inl (by simp [hk])
        · have h1 := hsay.2.2.2 k
          have h2 := X2.out.2.2.2.2.2.2.2.2.2.2 k
          show (k ∈ T' ∨ k ∈ L) ↔ ∃ h, (H h ∨ H2 h) ∧ enc p h = k
          rw [hI.out.2.2.2 k, ← hLpre]
          constructor
          · intro h
            rcases h with (h | h | h) | h
            · obtain ⟨y, hy, e⟩ := h1.1 (.inl h); exact ⟨y, .inl hy, e⟩
            · obtain ⟨y, hy, e⟩ := h2.1 (.inl h); exact ⟨y, .inr hy, e⟩
            · obtain ⟨y, hy, e⟩ := h2.1 (.inr h); exact ⟨y, .inr hy, e⟩
            · obtain ⟨y, hy, e⟩ := h1.1 (.inr h); exact ⟨y, .inl hy, e⟩
          · rintro ⟨y, hy | hy, e⟩
            · rcases h1.2 ⟨y, hy, e⟩ with h | h
              · exact .inl (.inl h)
              · exact .inr h
            · rcases h2.2 ⟨y, hy, e⟩ with h | h
              · exact .inl (.inr (.inl h))
              · exact .inl (.inr (.inr h))
      have Z := Lib.hid hsk
      clear hsk
      refine (maybe_any wa b p _ T' L (fun y => H y ∨ H2 y) h4 h10 Z.out.1 X.out.2.2.2.2.2.2.2.2.1 X.out.2.2.2.2.2.2.2.2.2.2.1 Z.out.2.2.2 (fun y hy => hy.elim (HHs.out.1 y) (HHs.out.2 y)) (by omega)).mono ?_
      rintro e wz ⟨F3, rfl, hsk3, hc3, hg3⟩
      have U := Lib.hid (And.intro hsk3 (And.intro hc3 hg3))
      clear hsk3 hc3 hg3
      go_wp2_with fail
      go_end0
      obtain ⟨hsk3, hc3, hg3⟩ := U.out
      obtain ⟨_, hc2, hg2, _⟩ := Z.out
      have hz := hc2.size
      refine ⟨F3, rfl, hsk3, hc2.trans hc3 hg2, fun k hk => ?_⟩
      rcases hg3 k hk with h | h
      · exact hg2 k h
      · exact .inr (by omega)
    · have hb0 : decide ((k :: rest) ≠ []) = true := by simp
      rw [hb0] at HH
      have hk32 : k < 4294967296 := by
        obtain ⟨v, _, _, hlt, _⟩ := X2.out.2.2.2.1
        exact hlt k (by rw [hI.out.2.1]; simp)
      have hLB : (bytesOf L2).length < 90000000 := by have := (bytesFrom_len 0 L2).2; show (bytesFrom 0 L2).length < _; omega
      have HLB := Lib.hid hLB
      clear hLB
      go_wp2_with fail
      refine (HH.out wr (HW.out.1 _ Hwr.out.1)).mono ?_
      rintro e wa ⟨rfl, hc⟩
      have Hwa := Lib.hid (Hwr.out.chg hc)
      clear hc iawr ibwr icwr
      have xa3 := HW.out.2 _ Hwa.out.1
      go_wp2_with fail
      go_region_held3 (fun w' => w'.cell? ⟨b, 3, none⟩ = some (.pointer (some ⟨bt, 0, none⟩))) (first | exact hKeep2 | exact hKeep | go_keep)
        (first
          | (go_at_call 60; go_must (refine (next_any _ it bl2 Fl2 L2 pre rest k (HW.out.1 wa.drew Hwa.out.1.drew) hI.out.2.1 (show Blk wa.drew it 99 _ from Hwa.out.2.2.2.1) (by have := HLB.out; omega)).mono ?_); rintro e wb ⟨rfl, hc, hbi⟩; have hNb := (Hwa.out.chg ((Chg.refl [] wa).drew)).it_ hbi hc; have hKeep := HW.out.2 _ hNb.1; have NB := Lib.hid hNb; clear hNb hbi hc)
          | (go_at_call 28; go_must (refine (sadd_any _ bt Ft' T' k NB.out.2.1 hk32 (by omega)).mono ?_); rintro e wc ⟨Fc, rfl, hsc, hcc, hgc⟩; have hNc := NB.out.add hsc hcc hgc; have hKeep2 := HW.out.2 _ hNc.1; have NC := Lib.hid hNc; clear hNc hsc hcc hgc))
      obtain ⟨i2, hi2⟩ : ∃ i2, i2 = (bytesOf (pre ++ [k])).length := ⟨_, rfl⟩
      have HI2 : Hid (i2 = (bytesOf (pre ++ [k])).length ∧ k = (pre ++ [k]).getLastD 0) := Lib.hid ⟨hi2, (getLastD_append_one _ _ _).symm⟩
      clear hi2 hKeep hKeep2 xa3
      obtain ⟨iawc, ibwc, icwc⟩ := it_cells NC.out.2.2.2.1 HI2.out.1 HI2.out.2
      generalize (!decide (k ∈ T')) = bb
      go_wp2_with fail
      go_roundw
      case rel =>
        have hv : itV (pre ++ [k]) bl2 = #[.int .i64 (i2 : Int), .int .u32 (k : Int), .pointer (some ⟨bl2, 0, none⟩)] := by rw [itV, ← HI2.out.1, ← HI2.out.2]
        have hcp := NC.out.copy
        rw [hv] at hcp
        refine ⟨wc.heap.size, pre ++ [k], rest, Fc, ins T' k, rfl, hcp, by rw [hI.out.2.1]; simp, ?_, fun x => ?_⟩
        · have := ins_len T' k; have := hI.out.2.2.1; simp; omega
        · rw [mem_ins, hI.out.2.2.2 x]; simp; grind
      case measure =>
        have hv : itV (pre ++ [k]) bl2 = #[.int .i64 (i2 : Int), .int .u32 (k : Int), .pointer (some ⟨bl2, 0, none⟩)] := by rw [itV, ← HI2.out.1, ← HI2.out.2]
        have e1 := itAt_eq NC.out.copy.2.2.2.1
        rw [hv] at e1
        have e2 := itAt_eq hI.out.1.2.2.2.1
        show _ - itAt _ _ < _ - itAt _ _
        rw [e1, e2]
        have hgt : (bytesOf pre).length < (bytesOf (pre ++ [k])).length := (bytesOf_lt_iff pre [k]).2 (by simp)
        have hle : (bytesOf (pre ++ [k])).length ≤ (bytesOf L2).length := by have h := bytesOf_le (pre ++ [k]) rest; rwa [show (pre ++ [k]) ++ rest = L2 by rw [hI.out.2.1]; simp] at h
        omega
end Go.Proofs.YtgoliddhhichgaaGreatDoor

/-! ### The walk of mergeDenseSketch. -/
namespace Go.Proofs.YtgoliddhhichgaaGreatDoor
open Go.RowKit Pl

theorem eg62' : ∀ args w, (callFunc 62 args).run Tryz.prog w = .ok (.enter 62 args) w := eg62

set_option maxHeartbeats 400000 in
set_option maxRecDepth 100000 in
/-- The closure in mergeDenseSketch. -/
theorem clo62_any (w : World) (x2 x3 b b2 p g n c k : Nat) (R : List Nat) (h4 : 4 ≤ p) (h10 : p ≤ 10) (hx2 : w.cell? ⟨x2, 0, none⟩ = some (.pointer (some ⟨b, 0, none⟩))) (hx3 : w.cell? ⟨x3, 0, none⟩ = some (.pointer (some ⟨b2, 0, none⟩)))
    (hp : w.cell? ⟨b2, 0, none⟩ = some (.int .u8 (p : Int))) (hc : w.cell? ⟨b, 5, none⟩ = some (.slice (some ⟨g, 0, none⟩) n c)) (hR : w.ownsRow 0 5 1 (.slice (some ⟨g, 0, none⟩) n c) n (R.map vU8)) (hn : n = R.length) (hn2 : n = 2 ^ p) (h256 : ∀ r, r ∈ R → r < 256) (hk : k < 4294967296) :
    Calls Tryz.prog 62 #[.int .u32 (k : Int), .pointer (some ⟨x3, 0, none⟩), .pointer (some ⟨x2, 0, none⟩)] w fun e w' => e = .returned (.tuple #[]) ∧ w'.ownsRow 0 5 1 (.slice (some ⟨g, 0, none⟩) n c) n ((upd R (decI p k) (decR p k)).map vU8) ∧ Chg [g] w w' := by
  have hi := decI_lt p k h10 hk
  obtain ⟨di, hdi⟩ : ∃ di, di = decI p k := ⟨_, rfl⟩
  obtain ⟨dr, hdr⟩ : ∃ dr, dr = decR p k := ⟨_, rfl⟩
  have hdec := decode_nat k p w hk h4 h10
  rw [← hdi, ← hdr] at hdec ⊢
  have hins := insert_own w b g n c di dr R hc hR hn (by rw [hdi, hn2]; exact hi) h256
  have HD := Lib.hid hdec
  have HI := Lib.hid hins
  clear hdec hins hdi hdr hi hR hn hn2 h256 hc
  go_enter Tryz.func62, Tryz.ntmps62
  go_wp2_with fail
  refine HD.out.mono ?_
  rintro e w' ⟨rfl, rfl⟩
  go_wp2_with fail
  refine HI.out.mono ?_
  rintro e w2 ⟨rfl, hR2, hc2⟩
  have Y := Lib.hid (And.intro hR2 hc2)
  clear hR2 hc2
  go_wp2_with fail
  go_end0
  exact ⟨rfl, Y.out.1, Y.out.2⟩

/-- What is known ahead of the second half of mergeDenseSketch. -/
def Half (w wy : World) (F Fy : List Nat) (b b2 p : Nat) (al g c : Nat) (R : List Nat) (H : Nat → Prop) (F2 : List Nat) (rep2 : Rep) : Prop :=
  Chg F w wy ∧ Blk wy b 59 #[.int .u8 (p : Int), .int .u32 ((2 ^ p : Nat) : Int), .float .f64 al, .pointer none, .pointer none, .slice (some ⟨g, 0, none⟩) R.length c] ∧ wy.ownsRow 0 5 1 (.slice (some ⟨g, 0, none⟩) R.length c) R.length (R.map vU8) ∧ R.length = 2 ^ p ∧
    (∀ r, r ∈ R → r < 256) ∧ Fy = [b, g] ∧ IsReg p H R ∧ Grew w F Fy ∧ Blk wy w.heap.size 42 #[.pointer (some ⟨b, 0, none⟩)] ∧ Blk wy (w.heap.size + 1) 42 #[.pointer (some ⟨b2, 0, none⟩)] ∧ SkAt wy b2 F2 p rep2 ∧ (∀ k, k ∈ F2 → k ∉ Fy)
theorem half_dense {w : World} {F F2 : List Nat} {b b2 p : Nat} {R : List Nat} {H : Nat → Prop} {rep2 : Rep} {wy : World} {Fy : List Nat} (hsk : SkAt wy b Fy p (.dense R)) (hR : IsReg p H R) (hc : Chg F w wy) (hg : Grew w F Fy)
    (h1 : Blk wy w.heap.size 42 #[.pointer (some ⟨b, 0, none⟩)]) (h2 : Blk wy (w.heap.size + 1) 42 #[.pointer (some ⟨b2, 0, none⟩)]) (hsk2 : SkAt w b2 F2 p rep2) (hd : ∀ k, k ∈ F2 → k ∉ F) : ∃ al g c, Half w wy F Fy b b2 p al g c R H F2 rep2 := by
  obtain ⟨al, v, hb, ho, hRl, h256, hF, hFn⟩ := hsk
  obtain ⟨g, c, rfl⟩ : ∃ g c, v = .slice (some ⟨g, 0, none⟩) R.length c := by
    rcases own_form ho with ⟨_, h0, _⟩ | ⟨g, c, h0, _⟩
    · have := Nat.two_pow_pos p; rw [List.length_map] at h0; omega
    · exact ⟨g, c, by simpa using h0⟩
  have ho2 : wy.ownsRow 0 5 1 (.slice (some ⟨g, 0, none⟩) R.length c) R.length (R.map vU8) := by unfold Own at ho; rwa [List.length_map] at ho
  have hlt := hsk2.lt
  refine ⟨al, g, c, hc, hb, ho2, hRl, h256, by simpa [Value.ownBlock] using hF, hR, hg, h1, h2, hsk2.chg hc hd, fun k hk hkf => ?_⟩
  rcases hg k hkf with h | h
  · exact hd k hk h
  · have := hlt k hk; omega

set_option maxHeartbeats 4000000 in
set_option maxRecDepth 100000 in
/-- (*Sketch).mergeDenseSketch. -/
theorem mergeDD_any (w : World) (b b2 p : Nat) (F F2 : List Nat) (rep : Rep) (R2 : List Nat) (H H2 : Nat → Prop) (h4 : 4 ≤ p) (h10 : p ≤ 10) (h : SkAt w b F p rep) (hsay : Says p H rep) (hH : Hs H)
    (h2 : SkAt w b2 F2 p (.dense R2)) (hsay2 : Says p H2 (.dense R2)) (hd : ∀ k, k ∈ F2 → k ∉ F) :
    Calls Tryz.prog 34 #[.pointer (some ⟨b, 0, none⟩), .pointer (some ⟨b2, 0, none⟩)] w (Left w b F p (fun y => H y ∨ H2 y)) := by
  obtain ⟨w1, hw1⟩ : ∃ w1, w1 = (w.alloc (.cells #[.pointer (some ⟨b, 0, none⟩)] 42)).alloc (.cells #[.pointer (some ⟨b2, 0, none⟩)] 42) := ⟨_, rfl⟩
  have hc1 : Chg [] w w1 := by rw [hw1]; exact ((Chg.refl _ _).alloc _).alloc _
  have hx2 : Blk w1 w.heap.size 42 #[.pointer (some ⟨b, 0, none⟩)] := by rw [hw1]; exact (Blk.new w _ _).alloc _
  have hx3 : Blk w1 (w.heap.size + 1) 42 #[.pointer (some ⟨b2, 0, none⟩)] := by rw [hw1]; simpa using Blk.new (w.alloc (.cells #[.pointer (some ⟨b, 0, none⟩)] 42)) 42 #[.pointer (some ⟨b2, 0, none⟩)]
  have hsk1 := h.chg hc1 (by simp)
  have h2k := h2
  cases rep with
  | sparse T L =>
    obtain ⟨al0, bt, Ft, bl, Fl, hb, hs, hl, hF, hFn⟩ := hsk1
    have c4 := hb.cell 4
    simp at c4
    have hnd := hFn
    rw [hF, List.nodup_cons, List.mem_append, List.nodup_append] at hnd
    have d2 := hx2.cell 0
    simp at d2
    have hL := hsay.1
    have hTn : T.length < 1000000 := by have := hsay.2.1; have : 2 ^ p ≤ 2 ^ 10 := Nat.pow_le_pow_right (by omega) h10; omega
    have hLn : L.length < 1000000 := by
      have h1 := (bytesFrom_len 0 L).1
      have h3 := hsay.2.2.1
      have : 2 ^ p ≤ 2 ^ 10 := Nat.pow_le_pow_right (by omega) h10
      unfold bytesOf at h3
      omega
    have hT := toNormal_any w1 b p al0 bt Ft T bl Fl L h4 h10 hb hs hl (fun h => hnd.1 (.inl h)) (fun h => hnd.1 (.inr h)) hL hTn hLn
    have HT := Lib.hid hT
    have HS := Lib.hid (sparse_any w1 b (some ⟨bl, 0, none⟩) c4)
    have HW1 := Lib.hid hw1
    rw [hw1] at d2
    have hz1 : w1.heap.size = w.heap.size + 2 := by rw [hw1]; simp
    have hFlt := h.lt
    have hbF := h.mem
    have X := Lib.hid (And.intro h (And.intro hsay (And.intro hH (And.intro h2 hsay2))))
    have X1 := Lib.hid (And.intro hc1 (And.intro hx2 (And.intro hx3 (And.intro hF (And.intro hz1 (And.intro hFlt (And.intro hbF hd)))))))
    clear hb hs hl hF hFn hnd hL hT c4 hw1 hx2 hx3 h hsay h2 hsay2 hH hc1 h2k hd hz1 hTn hLn hFlt hbF
    go_enter Tryz.func34, Tryz.ntmps34
    go_wp2_with fail
    rw [← HW1.out] at d2 ⊢
    refine HS.out.mono ?_
    rintro e wy0 ⟨rfl, rfl⟩
    simp only [Option.isSome_some]
    go_wp2_with fail
    refine HT.out.mono ?_
    rintro e wy ⟨Fy, L', rfl, hsk, hmem, hcy, hFy⟩
    have hhalf : ∃ al g c, Half w wy F Fy b b2 p al g c (regsD p L') H F2 (.dense R2) := by
      obtain ⟨hc1, hx2, hx3, hF, hz1, hFlt, hbF, hd⟩ := X1.out
      have hsay := X.out.2.1
      have hbl := hFlt b hbF
      have hFtl : ∀ k, k ∈ b :: Ft → k < w.heap.size := fun k hk => hFlt k (by rw [hF]; rcases List.mem_cons.1 hk with rfl | hk; simp; simp [hk])
      have hcF : Chg F w wy := (hc1.mono (by simp)).trans hcy (fun k hk => .inl (by rw [hF]; rcases List.mem_cons.1 hk with rfl | hk; simp; simp [hk]))
      refine half_dense hsk (regs_says h4 h10 X.out.2.2.1 (hsay.2.2.2.congr (fun k => by rw [hmem k]; exact Or.comm) (fun _ => Iff.rfl))) hcF (fun k hk => ?_) (hx2.chg hcy (fun hk => by have := hFtl _ hk; omega)) (hx3.chg hcy (fun hk => by have := hFtl _ hk; omega)) X.out.2.2.2.1 hd
      rcases hFy k hk with rfl | hk
      · exact .inl hbF
      · exact .inr (by omega)
    obtain ⟨al, g, c, hhalf⟩ := hhalf
    obtain ⟨R, hRdef⟩ : ∃ R, R = regsD p L' := ⟨_, rfl⟩
    rw [← hRdef] at hhalf
    have d2 := hhalf.2.2.2.2.2.2.2.2.1.cell 0
    have d3 := hhalf.2.2.2.2.2.2.2.2.2.1.cell 0
    simp at d2 d3
    have HY := Lib.hid hhalf
    clear hhalf hsk hmem hcy hFy hRdef
    obtain ⟨hcy, hby, hoy, hRl, hR256, hFy, hRr, hgy, hx2y, hx3y, hsk2y, hdy⟩ := HY.out
    obtain ⟨al2, v2, hb2, ho2, hR2l, hR2256, hF2, _⟩ := hsk2y
    obtain ⟨g2, cc2, rfl⟩ : ∃ g c, v2 = .slice (some ⟨g, 0, none⟩) R2.length c := by
      rcases own_form ho2 with ⟨_, h0, _⟩ | ⟨g, c, h0, _⟩
      · have := Nat.two_pow_pos p; rw [List.length_map] at h0; omega
      · exact ⟨g, c, by simpa using h0⟩
    have ho2' : wy.ownsRow 0 5 1 (.slice (some ⟨g2, 0, none⟩) R2.length cc2) R2.length (R2.map vU8) := by unfold Own at ho2; rwa [List.length_map] at ho2
    have s4 := hb2.cell 4
    have s5 := hb2.cell 5
    simp at s4 s5
    have HS2 := Lib.hid (sparse_any wy b2 none s4)
    have hM2 : R.length = R2.length := by rw [hRl, hR2l]
    have hM1 : R2.length ≤ 1024 := by rw [hR2l]; exact Nat.pow_le_pow_right (n := 2) (by omega) h10
    have hb2g : b2 ≠ g := by rintro rfl; exact hdy b2 (by rw [hF2]; simp) (by rw [hFy]; simp)
    have hg2g : g2 ≠ g := by rintro rfl; exact hdy g2 (by rw [hF2]; simp [Value.ownBlock]) (by rw [hFy]; simp)
    have hbg : b ≠ g := by rintro rfl; exact own_ne hoy hby (by decide) rfl
    have hx2g : w.heap.size ≠ g := by rintro e; rw [← e] at hoy; exact own_ne hoy hx2y (by decide) rfl
    have hx3g : w.heap.size + 1 ≠ g := by rintro e; rw [← e] at hoy; exact own_ne hoy hx3y (by decide) rfl
    obtain ⟨M, hM⟩ : ∃ M, M = R2.length := ⟨_, rfl⟩
    rw [← hM] at hM1 s5 ho2'
    have Y := Lib.hid (And.intro hb2 (And.intro ho2' (And.intro hR2l (And.intro hR2256 (And.intro hM2 (And.intro hb2g (And.intro hg2g (And.intro hbg (And.intro hx2g (And.intro hx3g hM))))))))))
    have hKp : ∀ W, Chg [g] wy W → W.cell? ⟨w.heap.size, 0, none⟩ = some (.pointer (some ⟨b, 0, none⟩)) ∧ W.cell? ⟨b, 5, none⟩ = some (.slice (some ⟨g, 0, none⟩) M c) ∧ (∀ (i r : Nat), R2[i]? = some r → W.cell? ⟨g2, i, none⟩ = some (.int .u8 (r : Int))) := fun W hW => by
      refine ⟨by simpa using (hx2y.chg hW (by simpa using hx2g)).cell 0, ?_, fun i r hr => ?_⟩
      · have := (hby.chg hW (by simpa using hbg)).cell 5
        rw [hM, ← hM2]
        simpa using this
      · have h1 := own_agree ho2' (fun g' hg' => hW.same (own_lt ho2' hg') (by simp [Value.ownBlock] at hg'; subst hg'; simpa using hg2g))
        rcases own_form h1 with ⟨h0, _⟩ | ⟨g', cap, h0, _, _, hcell, _, _⟩
        · cases h0
        · simp only [Value.slice.injEq, Option.some.injEq, Addr.mk.injEq] at h0
          obtain ⟨⟨rfl, _⟩, _⟩ := h0
          exact hcell i _ (by rw [List.getElem?_map, hr]; rfl)
    have KP := Lib.hid hKp
    clear hcy hby hoy hRl hR256 hFy hRr hgy hx2y hx3y hdy hb2 ho2 hR2l hR2256 hF2 ho2' hM2 hb2g hg2g hbg hx2g hx3g hKp hM s4
    go_wp2_with fail
    refine HS2.out.mono ?_
    rintro e w' ⟨rfl, rfl⟩
    simp only [Option.isSome_none]
    go_wp2_with fail
    clear s5 d2 d3
    go_loopw [47] (fun s47 wr => ∃ (i : Nat) (R' : List Nat), s47 = .int .i64 (i : Int) ∧ i ≤ M ∧ Hid (Chg [g] wy wr ∧ wr.ownsRow 0 5 1 (.slice (some ⟨g, 0, none⟩) M c) M (R'.map vU8) ∧ R'.length = M ∧ (∀ r, r ∈ R' → r < 256) ∧ ∀ j, reg R' j = if j < i then max (reg R j) (reg R2 j) else reg R j)) (fun s47 _ => M - (intOf s47).toNat)
    case atStart =>
      refine ⟨0, R, rfl, by omega, Chg.refl _ _, ?_, ?_, HY.out.2.2.2.2.1, fun j => by simp⟩
      · have h1 := HY.out.2.2.1
        rw [Y.out.2.2.2.2.1, ← Y.out.2.2.2.2.2.2.2.2.2.2] at h1
        exact h1
      · rw [Y.out.2.2.2.2.1, Y.out.2.2.2.2.2.2.2.2.2.2]
    case round =>
      obtain ⟨i, R', rfl, hi, hI⟩ := hrel
      by_cases hlt : i < M
      · have hiR2 : i < R2.length := by rw [← Y.out.2.2.2.2.2.2.2.2.2.2]; exact hlt
        have hiR : i < R'.length := by rw [hI.out.2.2.1]; exact hlt
        obtain ⟨r2, hr2⟩ : ∃ r2, r2 = R2[i]'hiR2 := ⟨_, rfl⟩
        obtain ⟨r1, hr1⟩ : ∃ r1, r1 = R'[i]'hiR := ⟨_, rfl⟩
        obtain ⟨k2, k5, kg⟩ := KP.out wr hI.out.1
        have kg2 := kg i r2 (by rw [hr2, List.getElem?_eq_getElem hiR2])
        have hcf : wr.cell? ⟨g, i, none⟩ = some (.int .u8 (r1 : Int)) ∧ wr.frozen? ⟨g, i, none⟩ = false := by
          rcases own_form hI.out.2.1 with ⟨h0, _⟩ | ⟨g', cap, h0, _, _, hcell, hf, _⟩
          · cases h0
          · simp only [Value.slice.injEq, Option.some.injEq, Addr.mk.injEq] at h0
            obtain ⟨⟨rfl, _⟩, _⟩ := h0
            exact ⟨hcell i _ (by rw [List.getElem?_map, List.getElem?_eq_getElem hiR, hr1]; rfl), hf i⟩
        obtain ⟨hcg, hfg⟩ := hcf
        have hr1v : Hid (r1 = reg R' i) := by show _ = _; rw [hr1]; simp [reg, hiR]
        have hr2v : Hid (r2 = reg R2 i) := by show _ = _; rw [hr2]; simp [reg, hiR2]
        have hr2256 : r2 < 256 := by rw [hr2]; exact Y.out.2.2.2.1 _ (List.getElem_mem _)
        have hreg := hI.out.2.2.2.2 i
        rw [if_neg (by omega)] at hreg
        have HRG := Lib.hid hreg
        clear hr1 hr2 kg hreg hiR hiR2
        by_cases hgt : r1 < r2
        · go_wp2_with fail
          go_roundw
          case rel =>
            have h1 := own_set (i := i) hI.out.2.1 (vU8 r2)
            refine ⟨i + 1, R'.set i r2, by go_num, by omega, hI.out.1.setCell (.inl (by simp)) _, ?_, by rw [List.length_set]; exact hI.out.2.2.1, ?_, fun j => ?_⟩
            · rw [List.map_set]; exact h1
            · intro r hr
              rcases List.mem_or_eq_of_mem_set hr with hr | rfl
              · exact hI.out.2.2.2.1 r hr
              · exact hr2256
            · have h2 := hI.out.2.2.2.2 j
              have e : reg (R'.set i r2) j = if j = i then r2 else reg R' j := by
                unfold reg
                rw [List.getElem?_set]
                by_cases hj : i = j
                · subst hj
                  simp
                  rw [if_pos (by rw [hI.out.2.2.1]; exact hlt)]
                  simp
                · rw [if_neg hj, if_neg (fun e => hj e.symm)]
              rw [e]
              by_cases hj : j = i
              · subst hj
                rw [if_pos rfl, if_pos (by omega), ← HRG.out, ← hr1v.out, ← hr2v.out]
                omega
              · rw [if_neg hj, h2]
                by_cases hj2 : j < i
                · rw [if_pos hj2, if_pos (by omega)]
                · rw [if_neg hj2, if_neg (by omega)]
          case measure => simp [intOf]; omega
        · go_wp2_with fail
          go_roundw
          case rel =>
            refine ⟨i + 1, R', by go_num, by omega, hI.out.1, hI.out.2.1, hI.out.2.2.1, hI.out.2.2.2.1, fun j => ?_⟩
            rw [hI.out.2.2.2.2 j]
            by_cases hj : j = i
            · subst hj
              rw [if_neg (by omega), if_pos (by omega), ← HRG.out, ← hr1v.out, ← hr2v.out]
              omega
            · by_cases hj2 : j < i
              · rw [if_pos hj2, if_pos (by omega)]
              · rw [if_neg hj2, if_neg (by omega)]
          case measure => simp [intOf]; omega
      · have hiM : i = M := by omega
        have HIM := Lib.hid hiM
        clear hiM
        go_wp2_with fail
        go_end0
        obtain ⟨hcy, hby, hoy, hRl, hR256, hFy, hRr, hgy, hx2y, hx3y, hsk2y, hdy⟩ := HY.out
        obtain ⟨a1, a2, a3, a4, a5⟩ := hI.out
        have hML : M = 2 ^ p := by rw [Y.out.2.2.2.2.2.2.2.2.2.2, Y.out.2.2.1]
        refine ⟨Fy, rfl, ⟨.dense R', ⟨al, .slice (some ⟨g, 0, none⟩) M c, ?_, ?_, by rw [a3, hML], a4, by simpa [Value.ownBlock] using hFy, ?_⟩, ?_⟩, hcy.trans a1 (fun k hk => ?_), hgy⟩
        · have := hby.chg a1 (by simpa using Y.out.2.2.2.2.2.2.2.1)
          rwa [show R.length = M by rw [hRl, hML]] at this
        · unfold Own
          rw [List.length_map, a3]
          exact a2
        · rw [hFy]; simpa using Y.out.2.2.2.2.2.2.2.1
        · refine IsReg.max hRr X.out.2.2.2.2 (fun j hj => ?_)
          rw [a5 j, if_pos (by rw [HIM.out, hML]; exact hj)]
        · simp at hk
          subst hk
          exact hgy k (by rw [hFy]; simp)
  | dense R =>
    obtain ⟨al, g, c, hhalf⟩ := half_dense (w := w) (F := F) hsk1 hsay (hc1.mono (by simp)) (fun k hk => .inl hk) hx2 hx3 h2 hd
    obtain ⟨Fy, hFyd⟩ : ∃ Fy, Fy = F := ⟨_, rfl⟩
    rw [show Half w w1 F F b b2 p al g c R H F2 (.dense R2) = Half w w1 F Fy b b2 p al g c R H F2 (.dense R2) by rw [hFyd]] at hhalf
    have c4 := hhalf.2.1.cell 4
    simp at c4
    have d2 := hhalf.2.2.2.2.2.2.2.2.1.cell 0
    have d3 := hhalf.2.2.2.2.2.2.2.2.2.1.cell 0
    simp at d2 d3
    have HY := Lib.hid hhalf
    have HS := Lib.hid (sparse_any w1 b none c4)
    have HW1 := Lib.hid hw1
    have X := Lib.hid (And.intro h (And.intro hsay (And.intro hH (And.intro h2 hsay2))))
    rw [hw1] at d2 d3
    clear hhalf c4 hw1 hx2 hx3 hsk1 h hsay h2 hsay2 hH hc1 h2k hd hFyd
    go_enter Tryz.func34, Tryz.ntmps34
    go_wp2_with fail
    rw [← HW1.out] at d2 d3 ⊢
    refine HS.out.mono ?_
    rintro e wy ⟨rfl, hwy⟩
    rw [hwy] at HY d2 d3
    clear hwy
    simp only [Option.isSome_none]
    obtain ⟨hcy, hby, hoy, hRl, hR256, hFy, hRr, hgy, hx2y, hx3y, hsk2y, hdy⟩ := HY.out
    obtain ⟨al2, v2, hb2, ho2, hR2l, hR2256, hF2, _⟩ := hsk2y
    obtain ⟨g2, cc2, rfl⟩ : ∃ g c, v2 = .slice (some ⟨g, 0, none⟩) R2.length c := by
      rcases own_form ho2 with ⟨_, h0, _⟩ | ⟨g, c, h0, _⟩
      · have := Nat.two_pow_pos p; rw [List.length_map] at h0; omega
      · exact ⟨g, c, by simpa using h0⟩
    have ho2' : wy.ownsRow 0 5 1 (.slice (some ⟨g2, 0, none⟩) R2.length cc2) R2.length (R2.map vU8) := by unfold Own at ho2; rwa [List.length_map] at ho2
    have s4 := hb2.cell 4
    have s5 := hb2.cell 5
    simp at s4 s5
    have HS2 := Lib.hid (sparse_any wy b2 none s4)
    have hM2 : R.length = R2.length := by rw [hRl, hR2l]
    have hM1 : R2.length ≤ 1024 := by rw [hR2l]; exact Nat.pow_le_pow_right (n := 2) (by omega) h10
    have hb2g : b2 ≠ g := by rintro rfl; exact hdy b2 (by rw [hF2]; simp) (by rw [hFy]; simp)
    have hg2g : g2 ≠ g := by rintro rfl; exact hdy g2 (by rw [hF2]; simp [Value.ownBlock]) (by rw [hFy]; simp)
    have hbg : b ≠ g := by rintro rfl; exact own_ne hoy hby (by decide) rfl
    have hx2g : w.heap.size ≠ g := by rintro e; rw [← e] at hoy; exact own_ne hoy hx2y (by decide) rfl
    have hx3g : w.heap.size + 1 ≠ g := by rintro e; rw [← e] at hoy; exact own_ne hoy hx3y (by decide) rfl
    obtain ⟨M, hM⟩ : ∃ M, M = R2.length := ⟨_, rfl⟩
    rw [← hM] at hM1 s5 ho2'
    have Y := Lib.hid (And.intro hb2 (And.intro ho2' (And.intro hR2l (And.intro hR2256 (And.intro hM2 (And.intro hb2g (And.intro hg2g (And.intro hbg (And.intro hx2g (And.intro hx3g hM))))))))))
    have hKp : ∀ W, Chg [g] wy W → W.cell? ⟨w.heap.size, 0, none⟩ = some (.pointer (some ⟨b, 0, none⟩)) ∧ W.cell? ⟨b, 5, none⟩ = some (.slice (some ⟨g, 0, none⟩) M c) ∧ (∀ (i r : Nat), R2[i]? = some r → W.cell? ⟨g2, i, none⟩ = some (.int .u8 (r : Int))) := fun W hW => by
      refine ⟨by simpa using (hx2y.chg hW (by simpa using hx2g)).cell 0, ?_, fun i r hr => ?_⟩
      · have := (hby.chg hW (by simpa using hbg)).cell 5
        rw [hM, ← hM2]
        simpa using this
      · have h1 := own_agree ho2' (fun g' hg' => hW.same (own_lt ho2' hg') (by simp [Value.ownBlock] at hg'; subst hg'; simpa using hg2g))
        rcases own_form h1 with ⟨h0, _⟩ | ⟨g', cap, h0, _, _, hcell, _, _⟩
        · cases h0
        · simp only [Value.slice.injEq, Option.some.injEq, Addr.mk.injEq] at h0
          obtain ⟨⟨rfl, _⟩, _⟩ := h0
          exact hcell i _ (by rw [List.getElem?_map, hr]; rfl)
    have KP := Lib.hid hKp
    clear hcy hby hoy hRl hR256 hFy hRr hgy hx2y hx3y hdy hb2 ho2 hR2l hR2256 hF2 ho2' hM2 hb2g hg2g hbg hx2g hx3g hKp hM s4
    go_wp2_with fail
    refine HS2.out.mono ?_
    rintro e w' ⟨rfl, rfl⟩
    simp only [Option.isSome_none]
    go_wp2_with fail
    clear s5 d2 d3
    go_loopw [47] (fun s47 wr => ∃ (i : Nat) (R' : List Nat), s47 = .int .i64 (i : Int) ∧ i ≤ M ∧ Hid (Chg [g] wy wr ∧ wr.ownsRow 0 5 1 (.slice (some ⟨g, 0, none⟩) M c) M (R'.map vU8) ∧ R'.length = M ∧ (∀ r, r ∈ R' → r < 256) ∧ ∀ j, reg R' j = if j < i then max (reg R j) (reg R2 j) else reg R j)) (fun s47 _ => M - (intOf s47).toNat)
    case atStart =>
      refine ⟨0, R, rfl, by omega, Chg.refl _ _, ?_, ?_, HY.out.2.2.2.2.1, fun j => by simp⟩
      · have h1 := HY.out.2.2.1
        rw [Y.out.2.2.2.2.1, ← Y.out.2.2.2.2.2.2.2.2.2.2] at h1
        exact h1
      · rw [Y.out.2.2.2.2.1, Y.out.2.2.2.2.2.2.2.2.2.2]
    case round =>
      obtain ⟨i, R', rfl, hi, hI⟩ := hrel
      by_cases hlt : i < M
      · have hiR2 : i < R2.length := by rw [← Y.out.2.2.2.2.2.2.2.2.2.2]; exact hlt
        have hiR : i < R'.length := by rw [hI.out.2.2.1]; exact hlt
        obtain ⟨r2, hr2⟩ : ∃ r2, r2 = R2[i]'hiR2 := ⟨_, rfl⟩
        obtain ⟨r1, hr1⟩ : ∃ r1, r1 = R'[i]'hiR := ⟨_, rfl⟩
        obtain ⟨k2, k5, kg⟩ := KP.out wr hI.out.1
        have kg2 := kg i r2 (by rw [hr2, List.getElem?_eq_getElem hiR2])
        have hcf : wr.cell? ⟨g, i, none⟩ = some (.int .u8 (r1 : Int)) ∧ wr.frozen? ⟨g, i, none⟩ = false := by
          rcases own_form hI.out.2.1 with ⟨h0, _⟩ | ⟨g', cap, h0, _, _, hcell, hf, _⟩
          · cases h0
          · simp only [Value.slice.injEq, Option.some.injEq, Addr.mk.injEq] at h0
            obtain ⟨⟨rfl, _⟩, _⟩ := h0
            exact ⟨hcell i _ (by rw [List.getElem?_map, List.getElem?_eq_getElem hiR, hr1]; rfl), hf i⟩
        obtain ⟨hcg, hfg⟩ := hcf
        have hr1v : Hid (r1 = reg R' i) := by show _ = _; rw [hr1]; simp [reg, hiR]
        have hr2v : Hid (r2 = reg R2 i) := by show _ = _; rw [hr2]; simp [reg, hiR2]
        have hr2256 : r2 < 256 := by rw [hr2]; exact Y.out.2.2.2.1 _ (List.getElem_mem _)
        have hreg := hI.out.2.2.2.2 i
        rw [if_neg (by omega)] at hreg
        have HRG := Lib.hid hreg
        clear hr1 hr2 kg hreg hiR hiR2
        by_cases hgt : r1 < r2
        · go_wp2_with fail
          go_roundw
          case rel =>
            have h1 := own_set (i := i) hI.out.2.1 (vU8 r2)
            refine ⟨i + 1, R'.set i r2, by go_num, by omega, hI.out.1.setCell (.inl (by simp)) _, ?_, by rw [List.length_set]; exact hI.out.2.2.1, ?_, fun j => ?_⟩
            · rw [List.map_set]; exact h1
            · intro r hr
              rcases List.mem_or_eq_of_mem_set hr with hr | rfl
              · exact hI.out.2.2.2.1 r hr
              · exact hr2256
            · have h2 := hI.out.2.2.2.2 j
              have e : reg (R'.set i r2) j = if j = i then r2 else reg R' j := by
                unfold reg
                rw [List.getElem?_set]
                by_cases hj : i = j
                · subst hj
                  simp
                  rw [if_pos (by rw [hI.out.2.2.1]; exact hlt)]
                  simp
                · rw [if_neg hj, if_neg (fun e => hj e.symm)]
              rw [e]
              by_cases hj : j = i
              · subst hj
                rw [if_pos rfl, if_pos (by omega), ← HRG.out, ← hr1v.out, ← hr2v.out]
                omega
              · rw [if_neg hj, h2]
                by_cases hj2 : j < i
                · rw [if_pos hj2, if_pos (by omega)]
                · rw [if_neg hj2, if_neg (by omega)]
          case measure => simp [intOf]; omega
        · go_wp2_with fail
          go_roundw
          case rel =>
            refine ⟨i + 1, R', by go_num, by omega, hI.out.1, hI.out.2.1, hI.out.2.2.1, hI.out.2.2.2.1, fun j => ?_⟩
            rw [hI.out.2.2.2.2 j]
            by_cases hj : j = i
            · subst hj
              rw [if_neg (by omega), if_pos (by omega), ← HRG.out, ← hr1v.out, ← hr2v.out]
              omega
            · by_cases hj2 : j < i
              · rw [if_pos hj2, if_pos (by omega)]
              · rw [if_neg hj2, if_neg (by omega)]
          case measure => simp [intOf]; omega
      · have hiM : i = M := by omega
        have HIM := Lib.hid hiM
        clear hiM
        go_wp2_with fail
        go_end0
        obtain ⟨hcy, hby, hoy, hRl, hR256, hFy, hRr, hgy, hx2y, hx3y, hsk2y, hdy⟩ := HY.out
        obtain ⟨a1, a2, a3, a4, a5⟩ := hI.out
        have hML : M = 2 ^ p := by rw [Y.out.2.2.2.2.2.2.2.2.2.2, Y.out.2.2.1]
        refine ⟨Fy, rfl, ⟨.dense R', ⟨al, .slice (some ⟨g, 0, none⟩) M c, ?_, ?_, by rw [a3, hML], a4, by simpa [Value.ownBlock] using hFy, ?_⟩, ?_⟩, hcy.trans a1 (fun k hk => ?_), hgy⟩
        · have := hby.chg a1 (by simpa using Y.out.2.2.2.2.2.2.2.1)
          rwa [show R.length = M by rw [hRl, hML]] at this
        · unfold Own
          rw [List.length_map, a3]
          exact a2
        · rw [hFy]; simpa using Y.out.2.2.2.2.2.2.2.1
        · refine IsReg.max hRr X.out.2.2.2.2 (fun j hj => ?_)
          rw [a5 j, if_pos (by rw [HIM.out, hML]; exact hj)]
        · simp at hk
          subst hk
          exact hgy k (by rw [hFy]; simp)
end Go.Proofs.YtgoliddhhichgaaGreatDoor

/-! ### The walk of mergeDenseSketch: a sparse sketch into a dense one. -/
namespace Go.Proofs.YtgoliddhhichgaaGreatDoor
open Go.RowKit Pl

theorem addK_snoc (p : Nat) (R L : List Nat) (k : Nat) : addK p R (L ++ [k]) = upd (addK p R L) (decI p k) (decR p k) := by unfold addK; rw [List.foldl_append]; rfl
theorem addK_lt (p : Nat) (L : List Nat) : ∀ R : List Nat, (∀ r, r ∈ R → r < 256) → ∀ r, r ∈ addK p R L → r < 256 := by
  unfold addK
  induction L with
  | nil => intro R h; exact h
  | cons k L ih => intro R h; rw [List.foldl_cons]; exact ih _ (upd_lt _ _ _ (decR_lt p k) h)
theorem addK_append (p : Nat) (R L L' : List Nat) : addK p R (L ++ L') = addK p (addK p R L) L' := by unfold addK; rw [List.foldl_append]

/-- Memory in the loop that adds a list's keys to registers. -/
def GSt (wz wr : World) (g c M p : Nat) (R : List Nat) (it bl : Nat) (pre : List Nat) : Prop :=
  Chg [g] wz wr ∧ wr.ownsRow 0 5 1 (.slice (some ⟨g, 0, none⟩) M c) M ((addK p R pre).map vU8) ∧ Blk wr it 99 (itV pre bl) ∧ wz.heap.size ≤ it ∧ g < wz.heap.size
section
variable {wz wr w' : World} {g c M p it bl : Nat} {R pre : List Nat}
theorem GSt.chg (h : GSt wz wr g c M p R it bl pre) (hc : Chg [] wr w') : GSt wz w' g c M p R it bl pre := by
  obtain ⟨h1, h2, h3, h4, h5⟩ := h
  exact ⟨h1.trans hc (by simp), own_agree h2 (fun g hg => hc.same (own_lt h2 hg) (by simp)), h3.chg hc (by simp), h4, h5⟩
theorem GSt.it_ (h : GSt wz wr g c M p R it bl pre) (hc : Chg [it] wr w') : Chg [g] wz w' ∧ w'.ownsRow 0 5 1 (.slice (some ⟨g, 0, none⟩) M c) M ((addK p R pre).map vU8) := by
  obtain ⟨h1, h2, h3, h4, h5⟩ := h
  exact ⟨h1.trans hc (fun k hk => .inr (by simp at hk; omega)), own_agree h2 (fun g' hg => hc.same (own_lt h2 hg) (by simp [Value.ownBlock] at hg; subst hg; simp; omega))⟩
theorem GSt.copy (h : GSt wz wr g c M p R it bl pre) : GSt wz (wr.alloc (.cells (itV pre bl) 99)) g c M p R wr.heap.size bl pre := by
  obtain ⟨h1, h2, h3, h4, h5⟩ := h
  exact ⟨h1.alloc _, own_agree h2 (fun g hg => Below.heap_alloc _ _ _ (own_lt h2 hg)), Blk.new _ _ _, h1.size, h5⟩
end

set_option maxHeartbeats 4000000 in
set_option maxRecDepth 100000 in
/-- (*Sketch).mergeDenseSketch. -/
theorem mergeDS_any (w : World) (b b2 p : Nat) (F F2 R T2 L2 : List Nat) (H H2 : Nat → Prop) (h4 : 4 ≤ p) (h10 : p ≤ 10) (h : SkAt w b F p (.dense R)) (hsay : Says p H (.dense R))
    (h2 : SkAt w b2 F2 p (.sparse T2 L2)) (hsay2 : Says p H2 (.sparse T2 L2)) (hH2 : Hs H2) (hd : ∀ k, k ∈ F2 → k ∉ F) :
    Calls Tryz.prog 34 #[.pointer (some ⟨b, 0, none⟩), .pointer (some ⟨b2, 0, none⟩)] w (Left w b F p (fun y => H y ∨ H2 y)) := by
  obtain ⟨w1, hw1⟩ : ∃ w1, w1 = (w.alloc (.cells #[.pointer (some ⟨b, 0, none⟩)] 42)).alloc (.cells #[.pointer (some ⟨b2, 0, none⟩)] 42) := ⟨_, rfl⟩
  have hc1 : Chg [] w w1 := by rw [hw1]; exact ((Chg.refl _ _).alloc _).alloc _
  have hx2 : Blk w1 w.heap.size 42 #[.pointer (some ⟨b, 0, none⟩)] := by rw [hw1]; exact (Blk.new w _ _).alloc _
  have hx3 : Blk w1 (w.heap.size + 1) 42 #[.pointer (some ⟨b2, 0, none⟩)] := by rw [hw1]; simpa using Blk.new (w.alloc (.cells #[.pointer (some ⟨b, 0, none⟩)] 42)) 42 #[.pointer (some ⟨b2, 0, none⟩)]
  have hsk1 := h.chg hc1 (by simp)
  obtain ⟨al, g, c, hhalf⟩ := half_dense (w := w) (F := F) hsk1 hsay (hc1.mono (by simp)) (fun k hk => .inl hk) hx2 hx3 h2 hd
  obtain ⟨Fy, hFyd⟩ : ∃ Fy, Fy = F := ⟨_, rfl⟩
  rw [show Half w w1 F F b b2 p al g c R H F2 (.sparse T2 L2) = Half w w1 F Fy b b2 p al g c R H F2 (.sparse T2 L2) by rw [hFyd]] at hhalf
  have c4 := hhalf.2.1.cell 4
  simp at c4
  have d2 := hhalf.2.2.2.2.2.2.2.2.1.cell 0
  have d3 := hhalf.2.2.2.2.2.2.2.2.2.1.cell 0
  simp at d2 d3
  have HY := Lib.hid hhalf
  have HS := Lib.hid (sparse_any w1 b none c4)
  have HW1 := Lib.hid hw1
  have X := Lib.hid (And.intro hsay (And.intro hH2 hsay2))
  rw [hw1] at d2 d3
  clear hhalf c4 hw1 hx2 hx3 hsk1 h hsay h2 hsay2 hH2 hc1 hd hFyd
  go_enter Tryz.func34, Tryz.ntmps34
  go_wp2_with fail
  rw [← HW1.out] at d2 d3 ⊢
  refine HS.out.mono ?_
  rintro e wy ⟨rfl, hwy⟩
  rw [hwy] at HY d2 d3
  clear hwy
  simp only [Option.isSome_none]
  obtain ⟨hcy, hby, hoy, hRl, hR256, hFy, hRr, hgy, hx2y, hx3y, hsk2y, hdy⟩ := HY.out
  obtain ⟨al2, bt2, Ft2, bl2, Fl2, hb2, hs2, hl2, hF2, _⟩ := hsk2y
  have s3 := hb2.cell 3
  have s4 := hb2.cell 4
  simp at s3 s4
  have HS2 := Lib.hid (sparse_any wy b2 (some ⟨bl2, 0, none⟩) s4)
  have hb2g : b2 ≠ g := by rintro rfl; exact hdy b2 (by rw [hF2]; simp) (by rw [hFy]; simp)
  have hFt2g : ∀ k, k ∈ Ft2 → k ≠ g := by rintro k hk rfl; exact hdy k (by rw [hF2]; simp [hk]) (by rw [hFy]; simp)
  have hFl2g : ∀ k, k ∈ Fl2 → k ≠ g := by rintro k hk rfl; exact hdy k (by rw [hF2]; simp [hk]) (by rw [hFy]; simp)
  have hbg : b ≠ g := by rintro rfl; exact own_ne hoy hby (by decide) rfl
  have hx2g : w.heap.size ≠ g := by rintro e; rw [← e] at hoy; exact own_ne hoy hx2y (by decide) rfl
  have hx3g : w.heap.size + 1 ≠ g := by rintro e; rw [← e] at hoy; exact own_ne hoy hx3y (by decide) rfl
  have hgl : g < wy.heap.size := own_lt hoy rfl
  have h2p : 2 ^ p ≤ 2 ^ 10 := Nat.pow_le_pow_right (by omega) h10
  have hTn2 : T2.length ≤ 10 := by have h1 := X.out.2.2.2.1; omega
  have hLn2 : L2.length ≤ 1024 := by
    have h1 := (bytesFrom_len 0 L2).1
    have h3 := X.out.2.2.2.2.1
    unfold bytesOf at h3
    omega
  obtain ⟨M, hM⟩ : ∃ M, M = R.length := ⟨_, rfl⟩
  rw [← hM] at hoy
  obtain ⟨wz, hwz⟩ : ∃ wz, wz = (wy.alloc (.cells #[.pointer (some ⟨bt2, 0, none⟩)] 56)).alloc (.cells #[.func (.func 62) #[] #[.pointer (some ⟨w.heap.size + 1, 0, none⟩), .pointer (some ⟨w.heap.size, 0, none⟩)]] 105) := ⟨_, rfl⟩
  have hcz : Chg [] wy wz := by rw [hwz]; exact ((Chg.refl _ _).alloc _).alloc _
  have hKp : ∀ W, Chg [g] wz W → W.cell? ⟨w.heap.size, 0, none⟩ = some (.pointer (some ⟨b, 0, none⟩)) ∧ W.cell? ⟨w.heap.size + 1, 0, none⟩ = some (.pointer (some ⟨b2, 0, none⟩)) ∧ W.cell? ⟨b, 5, none⟩ = some (.slice (some ⟨g, 0, none⟩) M c) ∧
      W.cell? ⟨b2, 0, none⟩ = some (.int .u8 (p : Int)) ∧ W.cell? ⟨b2, 4, none⟩ = some (.pointer (some ⟨bl2, 0, none⟩)) ∧ W.cell? ⟨b2, 5, none⟩ = some (.slice none 0 0) ∧ ListAt W bl2 Fl2 L2 := fun W hW => by
    have hWy : Chg [g] wy W := (hcz.mono (by simp)).trans hW (fun k hk => .inl hk)
    have q2 := hb2.chg hWy (by simpa using hb2g)
    have q20 := q2.cell 0
    have q24 := q2.cell 4
    have q25 := q2.cell 5
    have q5 := (hby.chg hWy (by simpa using hbg)).cell 5
    rw [← hM] at q5
    simp at q20 q24 q25 q5
    exact ⟨by simpa using (hx2y.chg hWy (by simpa using hx2g)).cell 0, by simpa using (hx3y.chg hWy (by simpa using hx3g)).cell 0, q5, q20, q24, q25, hl2.chg hWy (fun k hk => by simpa using hFl2g k hk)⟩
  have hML : M = 2 ^ p := by rw [hM, hRl]
  have hrow : ∀ l, (addK p R l).length = M := fun l => by rw [addK_len, hM]
  have hoz : wz.ownsRow 0 5 1 (.slice (some ⟨g, 0, none⟩) M c) M ((addK p R []).map vU8) := own_agree hoy (fun g' hg' => hcz.same (own_lt hoy hg') (by simp))
  have hlt2 : ∀ k, k ∈ Ft2 → k < wy.heap.size := hs2.lt
  have hcall := sforEach_any wy bt2 Ft2 T2 hs2 62 #[.pointer (some ⟨w.heap.size + 1, 0, none⟩), .pointer (some ⟨w.heap.size, 0, none⟩)] eg62 wz hwz
    (fun l W => Chg [g] wz W ∧ W.ownsRow 0 5 1 (.slice (some ⟨g, 0, none⟩) M c) M ((addK p R l).map vU8)) ⟨Chg.refl _ _, hoz⟩
    (fun l W hI => ⟨fun k hk => hI.1.same (by have := hlt2 k hk; have := hcz.size; omega) (by simpa using hFt2g k hk), hI.1.same (by rw [hwz]; simp) (by simp; omega)⟩) (by omega)
    (fun l k W hk _ hI => by
      obtain ⟨q1, q2, q3, q4, _, _, _⟩ := hKp W hI.1
      refine (clo62_any W w.heap.size (w.heap.size + 1) b b2 p g M c k (addK p R l) h4 h10 q1 q2 q4 q3 hI.2 (hrow l).symm hML (addK_lt p l R hR256) hk).mono ?_
      rintro e W' ⟨rfl, hR', hc'⟩
      refine ⟨rfl, hI.1.trans hc' (fun k hk => .inl hk), ?_⟩
      rw [addK_snoc]
      exact hR')
  have HC := Lib.hid hcall
  have KP := Lib.hid hKp
  have Y := Lib.hid (And.intro hbg (And.intro hML (And.intro hrow (And.intro hcz (And.intro hM hFl2g)))))
  have hgz : g < wz.heap.size := by have := hcz.size; omega
  clear hcall hKp hcy hby hoy hRl hR256 hFy hRr hgy hx2y hx3y hdy hb2 hs2 hl2 hF2 hb2g hFt2g hFl2g hbg hx2g hx3g hM hML hrow hoz hlt2 hwz hcz s4 h2p hgl
  go_wp2_with fail
  refine HS2.out.mono ?_
  rintro e w' ⟨rfl, rfl⟩
  simp only [Option.isSome_some]
  go_wp2_with fail
  refine HC.out.mono ?_
  rintro e w5 ⟨rfl, hI5⟩
  have I5 := Lib.hid hI5
  obtain ⟨_, q3, _, _, q4, _, _⟩ := KP.out w5 hI5.1
  clear hI5 s3 d2 d3
  go_wp2_with fail
  refine (iter_any _ _).mono ?_
  rintro e w6 ⟨rfl, hc6⟩
  have hit : itV [] bl2 = #[.int .i64 0, .int .u32 0, .pointer (some ⟨bl2, 0, none⟩)] := rfl
  rw [hit]
  have HC6 := Lib.hid hc6
  clear hc6 hit q3 q4
  go_wp2_with fail
  have hG : GSt wz (w6.alloc (.cells #[.int .i64 0, .int .u32 0, .pointer (some ⟨bl2, 0, none⟩)] 99)) g c M p (addK p R T2) w6.heap.size bl2 [] := by
    have h1 := I5.out.1.trans HC6.out (by simp)
    have h2 := own_agree I5.out.2 (fun g hg => HC6.out.same (own_lt I5.out.2 hg) (by simp))
    exact ⟨h1.alloc _, own_agree h2 (fun g hg => Below.heap_alloc _ _ _ (own_lt h2 hg)), Blk.new _ _ _, h1.size, hgz⟩
  have G0 := Lib.hid hG
  clear hG
  generalize w6.alloc (.cells #[.int .i64 0, .int .u32 0, .pointer (some ⟨bl2, 0, none⟩)] 99) = w7 at G0 ⊢
  generalize w6.heap.size = it7 at G0 ⊢
  go_loopw [4] (fun s4 wr => ∃ (it : Nat) (pre rest : List Nat), s4 = .pointer (some ⟨it, 0, none⟩) ∧ Hid (GSt wz wr g c M p (addK p R T2) it bl2 pre ∧ L2 = pre ++ rest)) (fun s4 wr => (bytesOf L2).length - itAt wr s4)
  case atStart => exact ⟨it7, [], L2, rfl, G0.out, rfl⟩
  case round =>
    obtain ⟨it, pre, rest, rfl, hI⟩ := hrel
    obtain ⟨i, hi⟩ : ∃ i, i = (bytesOf pre).length := ⟨_, rfl⟩
    obtain ⟨la, hla⟩ : ∃ la, la = pre.getLastD 0 := ⟨_, rfl⟩
    have HI := Lib.hid (And.intro hi hla)
    have hhas : ∀ W, ListAt W bl2 Fl2 L2 → Calls Tryz.prog 59 #[.agg #[.int .i64 (i : Int), .int .u32 (la : Int), .pointer (some ⟨bl2, 0, none⟩)]] W fun e w' => e = .returned (.bool (decide (rest ≠ []))) ∧ Chg [] W w' := fun W hW => by
      rw [hi, hla]
      exact hasNext_any W bl2 Fl2 L2 pre rest hW hI.out.2
    have HH := Lib.hid hhas
    have Hwr := Lib.hid hI.out.1
    clear hi hla hhas
    obtain ⟨iawr, ibwr, icwr⟩ := it_cells Hwr.out.2.2.1 HI.out.1 HI.out.2
    rcases rest with _ | ⟨k, rest⟩
    · have hb0 : decide (([] : List Nat) ≠ []) = false := rfl
      rw [hb0] at HH
      go_wp2_with fail
      refine (HH.out wr (KP.out _ Hwr.out.1).2.2.2.2.2.2).mono ?_
      rintro e wa ⟨rfl, hc⟩
      have Hwa := Lib.hid (Hwr.out.chg hc)
      clear hc iawr ibwr icwr
      go_wp2_with fail
      refine bodyPost_ret (results_none rfl _ _ _) rfl ?_
      obtain ⟨hcy, hby, hoy, hRl, hR256, hFy, hRr, hgy, hx2y, hx3y, hsk2y, hdy⟩ := HY.out
      obtain ⟨hbg, hML, hrow, hcz, hM, hFl2g⟩ := Y.out
      obtain ⟨a1, a2, _, _, _⟩ := Hwa.out
      have hwy : Chg [g] wy wa := (hcz.mono (by simp)).trans a1 (fun k hk => .inl hk)
      have hpre : L2 = pre := by have := hI.out.2; simpa using this
      have hall : IsReg p (fun y => H y ∨ H2 y) (addK p R (T2 ++ L2)) := by
        refine IsReg.keys h4 h10 hRr hRl X.out.2.1 (X.out.2.2.2.2.2.congr (fun k => by simp) (fun _ => Iff.rfl))
      rw [← addK_append, ← hpre] at a2
      refine ⟨Fy, rfl, ⟨.dense (addK p R (T2 ++ L2)), ⟨al, .slice (some ⟨g, 0, none⟩) M c, ?_, ?_, by rw [hrow, hML], addK_lt p _ R hR256, by simpa [Value.ownBlock] using hFy, by rw [hFy]; simpa using hbg⟩, hall⟩, hcy.trans hwy (fun k hk => ?_), hgy⟩
      · have := hby.chg hwy (by simpa using hbg)
        rwa [← hM] at this
      · unfold Own
        rw [List.length_map, hrow]
        exact a2
      · simp at hk
        subst hk
        exact hgy k (by rw [hFy]; simp)
    · have hb0 : decide ((k :: rest) ≠ []) = true := by simp
      rw [hb0] at HH
      have hk32 : k < 4294967296 := by
        obtain ⟨v, _, _, hlt, _⟩ := (KP.out _ Hwr.out.1).2.2.2.2.2.2
        exact hlt k (by rw [hI.out.2]; simp)
      have hLB : (bytesOf L2).length < 90000000 := by have := (bytesFrom_len 0 L2).2; show (bytesFrom 0 L2).length < _; omega
      have HLB := Lib.hid hLB
      clear hLB
      go_wp2_with fail
      refine (HH.out wr (KP.out _ Hwr.out.1).2.2.2.2.2.2).mono ?_
      rintro e wa ⟨rfl, hc⟩
      have Hwa := Lib.hid (Hwr.out.chg hc)
      clear hc iawr ibwr icwr
      obtain ⟨_, xa3, _, xa0, _, _, _⟩ := KP.out _ Hwa.out.1
      obtain ⟨di, hdi⟩ : ∃ di, di = decI p k := ⟨_, rfl⟩
      obtain ⟨dr, hdr⟩ : ∃ dr, dr = decR p k := ⟨_, rfl⟩
      have hdec : ∀ W, Calls Tryz.prog 63 #[.int .u32 (k : Int), .int .u8 (p : Int), .int .u8 25] W fun e w' => e = .returned (.tuple #[.int .u32 (di : Int), .int .u8 (dr : Int)]) ∧ W = w' := fun W => by rw [hdi, hdr]; exact decode_nat k p W hk32 h4 h10
      have hdi2 : di < M := by rw [hdi, Y.out.2.1]; exact decI_lt p k h10 hk32
      have HD := Lib.hid (And.intro hdi hdr)
      have HDEC := Lib.hid hdec
      clear hdi hdr hdec
      go_wp2_with fail
      go_region_held3 (fun w' => w'.cell? ⟨w.heap.size + 1, 0, none⟩ = some (.pointer (some ⟨b2, 0, none⟩)) ∧ w'.cell? ⟨b2, 0, none⟩ = some (.int .u8 (p : Int))) (first | exact hKeep | go_keep)
        (first
          | (go_at_call 60; go_must (refine (next_any _ it bl2 Fl2 L2 pre rest k ((KP.out wa.drew Hwa.out.1.drew).2.2.2.2.2.2) hI.out.2 (show Blk wa.drew it 99 _ from Hwa.out.2.2.1) (by have := HLB.out; omega)).mono ?_); rintro e wb ⟨rfl, hc, hbi⟩; have hNb := (Hwa.out.chg ((Chg.refl [] wa).drew)).it_ hc; have hKeep : wb.cell? ⟨w.heap.size + 1, 0, none⟩ = some (.pointer (some ⟨b2, 0, none⟩)) ∧ wb.cell? ⟨b2, 0, none⟩ = some (.int .u8 (p : Int)) := (by obtain ⟨_, a, _, b, _⟩ := KP.out wb hNb.1; exact ⟨a, b⟩); have NB := Lib.hid (And.intro hNb hbi); clear hNb hbi hc)
          | (go_at_call 63; refine (HDEC.out _).mono ?_; rintro e w' ⟨rfl, rfl⟩))
      obtain ⟨hb2x, _, hc5, _, _, _, _⟩ := KP.out _ NB.out.1.1
      have hlr : (addK p (addK p R T2) pre).length = M := by rw [← addK_append]; exact Y.out.2.2.1 _
      have h2lt : ∀ r, r ∈ addK p (addK p R T2) pre → r < 256 := by rw [← addK_append]; exact addK_lt p _ R HY.out.2.2.2.2.1
      have hins := insert_own wb b g M c di dr _ hc5 NB.out.1.2 hlr.symm hdi2 h2lt
      have HINS := Lib.hid hins
      clear hKeep xa0 xa3 hins h2lt hlr
      go_wp2_with fail
      refine HINS.out.mono ?_
      rintro e wc ⟨rfl, hB, hcc⟩
      have HC : Hid (GSt wz wc g c M p (addK p R T2) it bl2 (pre ++ [k])) := by
        obtain ⟨⟨h1, h2⟩, h3⟩ := NB.out
        obtain ⟨_, _, _, h4, h5⟩ := Hwa.out
        refine ⟨h1.trans hcc (fun k hk => .inl hk), ?_, h3.chg hcc (by simp; omega), h4, h5⟩
        rw [addK_snoc, ← HD.out.1, ← HD.out.2]
        exact hB
      obtain ⟨i2, hi2⟩ : ∃ i2, i2 = (bytesOf (pre ++ [k])).length := ⟨_, rfl⟩
      have HI2 : Hid (i2 = (bytesOf (pre ++ [k])).length ∧ k = (pre ++ [k]).getLastD 0) := Lib.hid ⟨hi2, (getLastD_append_one _ _ _).symm⟩
      clear hB hcc hi2 hc5 hb2x
      obtain ⟨iawc, ibwc, icwc⟩ := it_cells HC.out.2.2.1 HI2.out.1 HI2.out.2
      go_wp2_with fail
      go_roundw
      case rel =>
        have hv : itV (pre ++ [k]) bl2 = #[.int .i64 (i2 : Int), .int .u32 (k : Int), .pointer (some ⟨bl2, 0, none⟩)] := by rw [itV, ← HI2.out.1, ← HI2.out.2]
        have hcp := HC.out.copy
        rw [hv] at hcp
        exact ⟨wc.heap.size, pre ++ [k], rest, rfl, hcp, by rw [hI.out.2]; simp⟩
      case measure =>
        have hv : itV (pre ++ [k]) bl2 = #[.int .i64 (i2 : Int), .int .u32 (k : Int), .pointer (some ⟨bl2, 0, none⟩)] := by rw [itV, ← HI2.out.1, ← HI2.out.2]
        have e1 := itAt_eq HC.out.copy.2.2.1
        rw [hv] at e1
        have e2 := itAt_eq hI.out.1.2.2.1
        show _ - itAt _ _ < _ - itAt _ _
        rw [e1, e2]
        have hgt : (bytesOf pre).length < (bytesOf (pre ++ [k])).length := (bytesOf_lt_iff pre [k]).2 (by simp)
        have hle : (bytesOf (pre ++ [k])).length ≤ (bytesOf L2).length := by have h := bytesOf_le (pre ++ [k]) rest; rwa [show (pre ++ [k]) ++ rest = L2 by rw [hI.out.2]; simp] at h
        omega
end Go.Proofs.YtgoliddhhichgaaGreatDoor

/-! ### The walk of Merge. -/
namespace Go.Proofs.YtgoliddhhichgaaGreatDoor
open Go.RowKit Pl

/-- Which form: the list's pointer. -/
theorem SkAt.form {w : World} {b p : Nat} {F : List Nat} {rep : Rep} (h : SkAt w b F p rep) : ∃ q : Option Addr, w.cell? ⟨b, 0, none⟩ = some (.int .u8 (p : Int)) ∧ w.cell? ⟨b, 4, none⟩ = some (.pointer q) ∧ (q.isSome = true ↔ ∃ T L, rep = .sparse T L) := by
  cases rep with
  | sparse T L =>
    obtain ⟨al, bt, Ft, bl, Fl, hb, hs, hl, hF, hFn⟩ := h
    have c0 := hb.cell 0
    have c4 := hb.cell 4
    simp at c0 c4
    exact ⟨_, c0, c4, by simp⟩
  | dense R =>
    obtain ⟨al, v, hb, ho, hR, h256, hF, hFn⟩ := h
    have c0 := hb.cell 0
    have c4 := hb.cell 4
    simp at c0 c4
    exact ⟨_, c0, c4, by simp⟩

/-- What Merge leaves. -/
def LeftE (w : World) (b : Nat) (F : List Nat) (p : Nat) (H : Nat → Prop) (e : Ending) (w' : World) : Prop :=
  ∃ F', e = .returned .nilIface ∧ Sk w' b F' p H ∧ Chg F w w' ∧ Grew w F F'
theorem Left.of_drewN {w w' : World} {b p n : Nat} {F : List Nat} {H : Nat → Prop} {e : Ending} (h : Left (w.drewN n) b F p H e w') : Left w b F p H e w' := by
  obtain ⟨F', he, hs, hc, hg⟩ := h
  exact ⟨F', he, hs, ⟨hc.os, hc.tape, hc.output, hc.size, hc.block⟩, hg⟩

set_option maxHeartbeats 4000000 in
set_option maxRecDepth 100000 in
/-- (*Sketch).Merge. -/
theorem merge_any (w : World) (b b2 p : Nat) (F F2 : List Nat) (H H2 : Nat → Prop) (h4 : 4 ≤ p) (h10 : p ≤ 10) (h : Sk w b F p H) (hH : Hs H) (h2 : Sk w b2 F2 p H2) (hH2 : Hs H2) (hd : ∀ k, k ∈ F2 → k ∉ F) :
    Calls Tryz.prog 13 #[.pointer (some ⟨b, 0, none⟩), .pointer (some ⟨b2, 0, none⟩)] w (LeftE w b F p (fun y => H y ∨ H2 y)) := by
  obtain ⟨rep, hsk, hsay⟩ := h
  obtain ⟨rep2, hsk2, hsay2⟩ := h2
  obtain ⟨q, c0, c4, hq⟩ := hsk.form
  obtain ⟨q2, e0, e4, hq2⟩ := hsk2.form
  have hp0 : ((p : Int) == 0) = false := by simp; omega
  have hS : ∀ n, Calls Tryz.prog 27 #[.pointer (some ⟨b, 0, none⟩)] (w.drewN n) fun e w' => e = .returned (.bool q.isSome) ∧ w.drewN n = w' := fun n => sparse_any _ b q c4
  have hS2 : ∀ n, Calls Tryz.prog 27 #[.pointer (some ⟨b2, 0, none⟩)] (w.drewN n) fun e w' => e = .returned (.bool q2.isSome) ∧ w.drewN n = w' := fun n => sparse_any _ b2 q2 e4
  have hboth : ∀ n, q.isSome = true → q2.isSome = true → Calls Tryz.prog 33 #[.pointer (some ⟨b, 0, none⟩), .pointer (some ⟨b2, 0, none⟩)] (w.drewN n) (Left w b F p (fun y => H y ∨ H2 y)) := fun n h1 h2 => by
    obtain ⟨T, L, rfl⟩ := hq.1 h1
    obtain ⟨T2, L2, rfl⟩ := hq2.1 h2
    exact (mergeSS_any (w.drewN n) b b2 p F T L F2 T2 L2 H H2 h4 h10 (hsk.agree fun _ _ => rfl) hsay hH (hsk2.agree fun _ _ => rfl) hsay2 hH2 hd).mono fun _ _ h => h.of_drewN
  have hany : ∀ n, ¬ (q.isSome = true ∧ q2.isSome = true) → Calls Tryz.prog 34 #[.pointer (some ⟨b, 0, none⟩), .pointer (some ⟨b2, 0, none⟩)] (w.drewN n) (Left w b F p (fun y => H y ∨ H2 y)) := fun n hn => by
    cases rep2 with
    | dense R2 => exact (mergeDD_any (w.drewN n) b b2 p F F2 rep R2 H H2 h4 h10 (hsk.agree fun _ _ => rfl) hsay hH (hsk2.agree fun _ _ => rfl) hsay2 hd).mono fun _ _ h => h.of_drewN
    | sparse T2 L2 =>
      cases rep with
      | sparse T L => exact absurd ⟨hq.2 ⟨_, _, rfl⟩, hq2.2 ⟨_, _, rfl⟩⟩ hn
      | dense R => exact (mergeDS_any (w.drewN n) b b2 p F F2 R T2 L2 H H2 h4 h10 (hsk.agree fun _ _ => rfl) hsay (hsk2.agree fun _ _ => rfl) hsay2 hH2 hd).mono fun _ _ h => h.of_drewN
  have HS := Lib.hid hS
  have HS2 := Lib.hid hS2
  have HB := Lib.hid hboth
  have HA := Lib.hid hany
  clear hS hS2 hboth hany hsk hsk2 hsay hsay2 hq hq2 hH hH2 hd c4 e4
  generalize q.isSome = s at HS HB HA
  generalize q2.isSome = s2 at HS2 HB HA
  cases s with
  | true =>
    cases s2 with
    | true =>
      go_enter Tryz.func13, Tryz.ntmps13
      go_wp2_with fail
      go_quiet (fail)
      go_wp2_with fail
      refine (HS.out nq).mono ?_
      rintro e w' ⟨rfl, rfl⟩
      go_wp2_with fail
      refine (HS2.out nq).mono ?_
      rintro e w' ⟨rfl, rfl⟩
      go_wp2_with fail
      refine (HB.out nq (by trivial) (by trivial)).mono ?_
      rintro e w' ⟨F', rfl, h1, h2, h3⟩
      have Z := Lib.hid (And.intro h1 (And.intro h2 h3))
      clear h1 h2 h3
      go_wp2_with fail
      go_ret
      exact ⟨F', rfl, Z.out⟩
    | false =>
      go_enter Tryz.func13, Tryz.ntmps13
      go_wp2_with fail
      go_quiet (fail)
      go_wp2_with fail
      refine (HS.out nq).mono ?_
      rintro e w' ⟨rfl, rfl⟩
      go_wp2_with fail
      refine (HS2.out nq).mono ?_
      rintro e w' ⟨rfl, rfl⟩
      go_wp2_with fail
      refine (HA.out nq (by simp)).mono ?_
      rintro e w' ⟨F', rfl, h1, h2, h3⟩
      have Z := Lib.hid (And.intro h1 (And.intro h2 h3))
      clear h1 h2 h3
      go_wp2_with fail
      go_ret
      exact ⟨F', rfl, Z.out⟩
  | false =>
    go_enter Tryz.func13, Tryz.ntmps13
    go_wp2_with fail
    go_quiet (fail)
    go_wp2_with fail
    refine (HS.out nq).mono ?_
    rintro e w' ⟨rfl, rfl⟩
    go_wp2_with fail
    refine (HA.out nq (by simp)).mono ?_
    rintro e w' ⟨F', rfl, h1, h2, h3⟩
    have Z := Lib.hid (And.intro h1 (And.intro h2 h3))
    clear h1 h2 h3
    go_wp2_with fail
    go_ret
    exact ⟨F', rfl, Z.out⟩
end Go.Proofs.YtgoliddhhichgaaGreatDoor
