/- The walk of ZZState: a sparse sketch. -/
import Derived.Test.YtgoliddhhichgaaGreatDoorZzA
import Derived.Test.YtgoliddhhichgaaGreatDoorSkB
import Derived.Test.YtgoliddhhichgaaGreatDoorMer
namespace Go.Proofs.YtgoliddhhichgaaGreatDoor
open Go.RowKit Pl

set_option maxHeartbeats 400000 in
set_option maxRecDepth 100000 in
theorem app71_any (a w : World) (c : Nat) (l : List Nat) (k : Nat) (h : Keys a w c l) (hl : l.length < 100000000) :
    Calls Tryz.prog 71 #[.int .u32 (k : Int), .pointer (some ⟨c, 0, none⟩)] w fun e w' => e = .returned (.tuple #[]) ∧ Keys a w' c (l ++ [k]) ∧ ∀ x t cs, Blk w x t cs → t ≠ 85 → t ≠ 35 → Blk w' x t cs := by
  obtain ⟨v, ha, hbox, ho0, hloc, hac⟩ := h
  have ho : w.ownsRow 0 35 1 v l.length (l.map vU32) := by
    unfold Own at ho0
    rwa [List.length_map] at ho0
  have c0 := hbox.cell 0
  simp at c0
  have hlt := hbox.lt
  have X := Lib.hid (And.intro ha (And.intro hbox (And.intro ho hloc)))
  clear ha hbox hloc ho0
  go_enter Tryz.func71, Tryz.ntmps71
  go_wp2_with (first
    | (at_builtin; refine wpApp A85 _ rfl _ _ rfl v _ (l.map vU32) rfl (ho.alloc _) ⟨w.heap.size, 0, none⟩ 1 1 [vU32 k] rfl rfl (cell_one_new _ _ _) (by simp [Value.oneCell', vU32]) (by omega) (by omega) (by omega) ?_; intro g2 cap2 w2 ho2 hg2 hat2 _; have hb2 := (X.out.2.1.alloc _).grown hg2 (fun e => own_ne X.out.2.2.1 X.out.2.1 (by decide) e.symm); have d2 := hb2.cell 0; have f2 := hb2.frozen 0; simp at d2; have Y := Lib.hid hb2; clear hb2 c0))
  go_end0
  obtain ⟨ha, hbox, ho, hloc⟩ := X.out
  have hb2 := Y.out
  have hcv := own_ne ho hbox (by decide)
  have hg2l : ∀ g, v.ownBlock = some g → g ∈ ([] : List Nat) ∨ a.heap.size ≤ g := fun g hg => .inr (hloc g hg)
  have hg2c : g2 ≠ c := by
    rintro rfl
    rcases hat2 with e | e
    · exact hcv e
    · have := hbox.lt; simp at e; omega
  refine ⟨rfl, ⟨.slice (some ⟨g2, 0, none⟩) (l.length + 1) cap2, ((ha.alloc _).grown hg2 hg2l).setCell (.inr hac) _, by simpa using hb2.set_ 0 _, ?_, ?_, hac⟩, fun x t cs hx h85 h35 => ?_⟩
  · refine own_agree ?_ (fun g hg => Below.heap_setCell _ _ _ g ?_)
    · rw [List.map_append]
      simpa using ho2
    · simp [Value.ownBlock] at hg; subst hg; exact hg2c
  · intro g hg
    simp [Value.ownBlock] at hg
    subst hg
    rcases hat2 with e | e
    · exact hloc _ e
    · have := ha.size; simp at e; omega
  · refine ((hx.alloc _).grown hg2 (fun e => own_ne ho hx (Ne.symm h35) e.symm)).far (hx.ne_ hbox h85) _


theorem step_append_none {ops : Array Oper} {o : Oper} {a : Act} {w : World} {K : Act → World → Prop} {Q : Exit → Act → World → Prop} {E : Prop} (hgd : o.guard = none) (s x : Operand)
    (ho : o.op = .call { callee := .builtin .append, args := #[s, x], argTypes := #[22, 22] }) (hs : a.eval s = .slice none 0 0) (hx : a.eval x = .slice none 0 0) (h : K (a.put o.dst (.slice none 0 0)) w) :
    if Region.wanted o (yielded ops a.tmps) = true then Oper.wp Tryz.prog o a w K Q else E := by
  have hw : Region.wanted o (yielded ops a.tmps) = true := by simp [Region.wanted, hgd]
  rw [if_pos hw]
  obtain ⟨i, hi, hz0, hz1, hz2⟩ := info_parts A22.info
  have hrun := run_append_owned_none (P := Tryz.prog) (w := w) 0 22 o.type 5 i 1 A22.ht hi (.slice none 0 0) 0 [] (World.ownsRow_nil _ _ _ _)
  unfold Oper.wp
  simp [execOp, ho, resolve, invoke, builtin, hs, hx, hrun, Result.andThen]
  exact h

/-- Memory in ZZState's loop. -/
def ZSt (w wr : World) (kv : Value) (it bl : Nat) (pre : List Nat) (v5 : Value) : Prop :=
  Chg [] w wr ∧ Blk wr w.heap.size 85 #[kv] ∧ Blk wr it 99 (itV pre bl) ∧ w.heap.size ≤ it ∧ Own wr 35 v5 (pre.map vU32) ∧ (∀ g, v5.ownBlock = some g → w.heap.size ≤ g)
theorem ZSt.chg {w wr w' : World} {kv v5 : Value} {it bl : Nat} {pre : List Nat} (h : ZSt w wr kv it bl pre v5) (hc : Chg [] wr w') : ZSt w w' kv it bl pre v5 := by
  obtain ⟨h1, h2, h3, h4, h5, h6⟩ := h
  exact ⟨h1.trans hc (by simp), h2.chg hc (by simp), h3.chg hc (by simp), h4, own_agree h5 (fun g hg => hc.same (own_lt h5 hg) (by simp)), h6⟩

/-- What ZZState leaves of a sparse sketch. -/
def ZzS (w : World) (p : Nat) (e : Ending) (w' : World) : Prop :=
  ∃ v0 v1 v2, e = .returned (.tuple #[.int .u8 (p : Int), .bool true, v0, v1, v2]) ∧ Chg [] w w'

set_option maxHeartbeats 4000000 in
set_option maxRecDepth 100000 in
theorem zzS_any (w : World) (b p : Nat) (F T L : List Nat) (h : SkAt w b F p (.sparse T L)) (hTn : T.length < 1000000) (hLn : L.length < 100000) :
    Calls Tryz.prog 45 #[.pointer (some ⟨b, 0, none⟩)] w (ZzS w p) := by
  obtain ⟨al, bt, Ft, bl, Fl, hb, hs, hl, hF, hFn⟩ := h
  have c3 := hb.cell 3
  have hlt := hb.lt
  simp at c3
  obtain ⟨w1, hw1⟩ : ∃ w1, w1 = w.alloc (.cells #[.slice none 0 0] 85) := ⟨_, rfl⟩
  have hc1 : Chg [] w w1 := by rw [hw1]; exact (Chg.refl _ _).alloc _
  have hK1 : Keys w w1 w.heap.size [] := ⟨.slice none 0 0, hc1, by rw [hw1]; exact Blk.new _ _ _, World.ownsRow_nil _ _ _ _, fun g hg => by simp [Value.ownBlock] at hg, Nat.le_refl _⟩
  obtain ⟨w4, hw4⟩ : ∃ w4, w4 = (w1.alloc (.cells #[.pointer (some ⟨bt, 0, none⟩)] 56)).alloc (.cells #[.func (.func 71) #[] #[.pointer (some ⟨w.heap.size, 0, none⟩)]] 105) := ⟨_, rfl⟩
  have hb4 : Blk w4 (w1.heap.size + 1) 105 #[.func (.func 71) #[] #[.pointer (some ⟨w.heap.size, 0, none⟩)]] := by rw [hw4]; simpa using Blk.new (w1.alloc (.cells #[.pointer (some ⟨bt, 0, none⟩)] 56)) 105 #[.func (.func 71) #[] #[.pointer (some ⟨w.heap.size, 0, none⟩)]]
  have hK4 : Keys w w4 w.heap.size [] := by
    obtain ⟨v, h1, h2, h3, h4, h5⟩ := hK1
    rw [hw4]
    exact ⟨v, (h1.alloc _).alloc _, (h2.alloc _).alloc _, own_agree h3 (fun g hg => (Below.heap_alloc _ _ _ (by have := own_lt h3 hg; simp; omega)).trans (Below.heap_alloc _ _ _ (own_lt h3 hg))), h4, h5⟩
  have hc4 : Chg [] w w4 := by rw [hw4]; exact (hc1.alloc _).alloc _
  have hcall := sforEach_any w1 bt Ft T (hs.chg hc1 (by simp)) 71 #[.pointer (some ⟨w.heap.size, 0, none⟩)] eg71 w4 hw4
    (fun l W => Keys w W w.heap.size l ∧ Blk W (w1.heap.size + 1) 105 #[.func (.func 71) #[] #[.pointer (some ⟨w.heap.size, 0, none⟩)]]) ⟨hK4, hb4⟩
    (fun l W hI => ⟨fun k hk => by
        obtain ⟨v, h1, _⟩ := hI.1
        have hk1 := hs.lt k hk
        rw [h1.same hk1 (by simp), hc4.same hk1 (by simp)], hI.2.trans hb4.symm⟩) (by omega)
    (fun l k W hk ⟨r, hr⟩ hI => by
      have hl : l.length ≤ T.length := by rw [hr]; simp
      refine (app71_any w W w.heap.size l k hI.1 (by omega)).mono ?_
      rintro e W' ⟨rfl, hK', hx⟩
      exact ⟨rfl, hK', hx _ _ _ hI.2 (by decide) (by decide)⟩)
  have HC := Lib.hid hcall
  have HW1 : Hid (w.alloc (.cells #[.slice none 0 0] 85) = w1) := hw1.symm
  have X := Lib.hid (And.intro hb (And.intro hs hl))
  clear hcall hb4 hK4 hc4 hK1 hc1 hw1 hw4 hb hs hl hF hFn
  go_enter Tryz.func45, Tryz.ntmps45
  go_wp2_with fail
  rw [HW1.out]
  refine HC.out.mono ?_
  rintro e w5 ⟨rfl, hK5, hdum⟩
  clear hdum
  obtain ⟨kv, hc5, hkb5, hko5, hkl5, hka⟩ := hK5
  obtain ⟨Ak, nk, ck, rfl⟩ : ∃ Ak nk ck, kv = .slice Ak nk ck := by
    obtain ⟨A, c, h, _⟩ := own_slice hko5
    exact ⟨A, _, c, h⟩
  have d4 := (X.out.1.chg hc5 (by simp)).cell 4
  simp at d4
  have Y := Lib.hid (And.intro hc5 (And.intro hkb5 (And.intro hko5 hkl5)))
  clear hc5 hkb5 hko5 hkl5 hka c3
  go_wp2_with fail
  refine (iter_any _ _).mono ?_
  rintro e w6 ⟨rfl, hc6⟩
  have hit : itV [] bl = #[.int .i64 0, .int .u32 0, .pointer (some ⟨bl, 0, none⟩)] := rfl
  rw [hit]
  have HC6 := Lib.hid hc6
  clear hc6 hit d4
  go_wp2_with fail
  have hZ : ZSt w (w6.alloc (.cells #[.int .i64 0, .int .u32 0, .pointer (some ⟨bl, 0, none⟩)] 99)) (.slice Ak nk ck) w6.heap.size bl [] (.slice none 0 0) := by
    obtain ⟨hc5, hkb5, _, _⟩ := Y.out
    have hc6 := hc5.trans HC6.out (by simp)
    exact ⟨hc6.alloc _, (hkb5.chg HC6.out (by simp)).alloc _, Blk.new _ _ _, hc6.size, World.ownsRow_nil _ _ _ _, fun g hg => by simp [Value.ownBlock] at hg⟩
  have Z0 := Lib.hid hZ
  clear hZ
  generalize w6.alloc (.cells #[.int .i64 0, .int .u32 0, .pointer (some ⟨bl, 0, none⟩)] 99) = w7 at Z0 ⊢
  generalize w6.heap.size = it7 at Z0 ⊢
  go_loopw [5, 7] (fun s5 s7 wr => ∃ (it : Nat) (pre rest : List Nat), s7 = .pointer (some ⟨it, 0, none⟩) ∧ Hid (ZSt w wr (.slice Ak nk ck) it bl pre s5 ∧ L = pre ++ rest)) (fun _ s7 wr => (bytesOf L).length - itAt wr s7)
  case atStart => exact ⟨it7, [], L, rfl, Z0.out, rfl⟩
  case round =>
    obtain ⟨it, pre, rest, rfl, hI⟩ := hrel
    obtain ⟨i, hi⟩ : ∃ i, i = (bytesOf pre).length := ⟨_, rfl⟩
    obtain ⟨la, hla⟩ : ∃ la, la = pre.getLastD 0 := ⟨_, rfl⟩
    have HI := Lib.hid (And.intro hi hla)
    have hhas : ∀ W, ListAt W bl Fl L → Calls Tryz.prog 59 #[.agg #[.int .i64 (i : Int), .int .u32 (la : Int), .pointer (some ⟨bl, 0, none⟩)]] W fun e w' => e = .returned (.bool (decide (rest ≠ []))) ∧ Chg [] W w' := fun W hW => by
      rw [hi, hla]
      exact hasNext_any W bl Fl L pre rest hW hI.out.2
    have HH := Lib.hid hhas
    have Hwr := Lib.hid hI.out.1
    clear hi hla hhas
    obtain ⟨iawr, ibwr, icwr⟩ := it_cells Hwr.out.2.2.1 HI.out.1 HI.out.2
    rcases rest with _ | ⟨k, rest⟩
    · have hb0 : decide (([] : List Nat) ≠ []) = false := rfl
      rw [hb0] at HH
      go_wp2_with fail
      refine (HH.out wr (X.out.2.2.chg Hwr.out.1 (by simp))).mono ?_
      rintro e wa ⟨rfl, hc⟩
      have Hwa := Lib.hid (Hwr.out.chg hc)
      clear hc iawr ibwr icwr
      go_wp2_with fail
      have hbz := X.out.1.chg Hwa.out.1 (by simp)
      have d0 := hbz.cell 0
      have d4 := hbz.cell 4
      have d5 := hbz.cell 5
      have dx := Hwa.out.2.1.cell 0
      have dxf := Hwa.out.2.1.frozen 0
      simp at d0 d4 d5 dx
      have hb2 := hbz.far (p := ⟨w.heap.size, 0, none⟩) (by show b ≠ w.heap.size; omega) (.slice Ak nk ck)
      have hx2 := Hwa.out.2.1.set_ 0 (.slice Ak nk ck)
      have e0 := hb2.drew.cell 0
      have e5 := hb2.drew.cell 5
      have ex := hx2.drew.cell 0
      have exf := hx2.drew.frozen 0
      have hKeep2 : ((wa.setCell ⟨w.heap.size, 0, none⟩ (.slice Ak nk ck)).drew).cell? ⟨b, 0, none⟩ = some (.int .u8 (p : Int)) ∧ ((wa.setCell ⟨w.heap.size, 0, none⟩ (.slice Ak nk ck)).drew).cell? ⟨b, 5, none⟩ = some (.slice none 0 0) ∧ ((wa.setCell ⟨w.heap.size, 0, none⟩ (.slice Ak nk ck)).drew).cell? ⟨w.heap.size, 0, none⟩ = some (.slice Ak nk ck) ∧ ((wa.setCell ⟨w.heap.size, 0, none⟩ (.slice Ak nk ck)).drew).frozen? ⟨w.heap.size, 0, none⟩ = false := ⟨by simpa using e0, by simpa using e5, by simpa using ex, exf⟩
      clear hbz hb2 hx2 e0 e5 ex exf
      go_region_held3 (fun w' => w'.cell? ⟨b, 0, none⟩ = some (.int .u8 (p : Int)) ∧ w'.cell? ⟨b, 5, none⟩ = some (.slice none 0 0) ∧ w'.cell? ⟨w.heap.size, 0, none⟩ = some (.slice Ak nk ck) ∧ w'.frozen? ⟨w.heap.size, 0, none⟩ = false)
        (first | exact hKeep2 | go_keep)
        (first
          | (go_at_call 27; go_must (refine (sparse_any wa.drew b (some ⟨bl, 0, none⟩) d4).mono ?_); rintro e w' ⟨rfl, rfl⟩)
          | (refine step_append_none (by rfl) _ _ (by rfl) (by rfl) (by rfl) ?_))
      have kx' : ((wa.setCell ⟨w.heap.size, 0, none⟩ (.slice Ak nk ck)).drew).cell? ⟨w.heap.size, 0, none⟩ = some (.slice Ak nk ck) := hKeep2.2.2.1
      clear hKeep2 d0 d4 d5 dx dxf
      go_wp2_with fail
      refine bodyPost_ret (v := .tuple #[.int .u8 (p : Int), .bool true, .slice Ak nk ck, u5, .slice none 0 0]) (by simp [results, Tryz.results45, go_sem, kx']) rfl ?_
      exact ⟨_, _, _, rfl, (Hwa.out.1.setCell (.inr (Nat.le_refl _)) _).drew⟩
    · have hb0 : decide ((k :: rest) ≠ []) = true := by simp
      rw [hb0] at HH
      have hk32 : k < 4294967296 := by
        obtain ⟨v, _, _, hlt, _⟩ := X.out.2.2
        exact hlt k (by rw [hI.out.2]; simp)
      have hLB : (bytesOf L).length < 90000000 := by have := (bytesFrom_len 0 L).2; show (bytesFrom 0 L).length < _; omega
      have HLB := Lib.hid hLB
      have hpl : pre.length < 200000 := by have := congrArg List.length hI.out.2; rw [List.length_append] at this; omega
      obtain ⟨A5, n5, c5, hs5⟩ : ∃ A5 n5 c5, u5 = .slice A5 n5 c5 := by
        obtain ⟨A, c, h, _⟩ := own_slice Hwr.out.2.2.2.2.1
        exact ⟨A, _, c, h⟩
      subst hs5
      have hn5 : n5 = pre.length := by
        rcases own_form Hwr.out.2.2.2.2.1 with ⟨h0, hl, _⟩ | ⟨g, c, h0, _⟩
        · simp at h0; rw [List.length_map] at hl; omega
        · simp at h0; exact h0.2.1
      have HN5 := Lib.hid hn5
      have hn5l : n5 < 200000 := by omega
      clear hLB hn5 hpl
      go_wp2_with fail
      refine (HH.out wr (X.out.2.2.chg Hwr.out.1 (by simp))).mono ?_
      rintro e wa ⟨rfl, hc⟩
      have Hwa := Lib.hid (Hwr.out.chg hc)
      clear hc iawr ibwr icwr
      go_wp2_with fail
      refine (next_any wa it bl Fl L pre rest k (X.out.2.2.chg Hwa.out.1 (by simp)) hI.out.2 Hwa.out.2.2.1 (by have := HLB.out; omega)).mono ?_
      rintro e wb ⟨rfl, hcb, hbi⟩
      have hb5 : wb.ownsRow 0 35 1 (.slice A5 n5 c5) n5 (pre.map vU32) := by
        obtain ⟨h1, h2, h3, h4, h5, h6⟩ := Hwa.out
        have h7 : wa.ownsRow 0 35 1 (.slice A5 n5 c5) n5 (pre.map vU32) := by unfold Own at h5; rw [List.length_map, ← HN5.out] at h5; exact h5
        exact own_agree h7 (fun g hg => hcb.same (own_lt h7 hg) (by simp; rintro rfl; exact own_ne h7 h3 (by decide) hg))
      have hbb : Blk wb w.heap.size 85 #[.slice Ak nk ck] := by
        obtain ⟨h1, h2, h3, h4, h5, h6⟩ := Hwa.out
        exact h2.chg hcb (by simpa using h2.ne_ h3 (by decide))
      have hcw : Chg [] w wb := by
        obtain ⟨h1, h2, h3, h4, h5, h6⟩ := Hwa.out
        exact h1.trans hcb (fun k hk => .inr (by simp at hk; subst hk; exact h4))
      have V := Lib.hid (And.intro hbi (And.intro hb5 (And.intro hbb hcw)))
      obtain ⟨i2, hi2⟩ : ∃ i2, i2 = (bytesOf (pre ++ [k])).length := ⟨_, rfl⟩
      have HI2 : Hid (i2 = (bytesOf (pre ++ [k])).length ∧ k = (pre ++ [k]).getLastD 0) := Lib.hid ⟨hi2, (getLastD_append_one _ _ _).symm⟩
      clear hcb hbi hb5 hbb hcw hi2
      go_wp2_with (at_builtin; go_must (refine wpApp A85 _ rfl _ _ rfl (.slice A5 n5 c5) n5 (pre.map vU32) rfl (V.out.2.1.alloc _) ⟨wb.heap.size, 0, none⟩ 1 1 [vU32 k] rfl rfl (cell_one_new _ _ _) (by simp [Value.oneCell', vU32]) (by omega) (by omega) (by omega) ?_); intro g2 cap2 w2 ho2 hg2 hat2 _; have hit2 : Blk w2 it 99 (itV (pre ++ [k]) bl) := ((V.out.1.alloc _).grown hg2 (fun e => own_ne V.out.2.1 V.out.1 (by decide) e.symm)); obtain ⟨za, zb, zc⟩ := it_cells hit2 HI2.out.1 HI2.out.2; have W := Lib.hid (And.intro ho2 (And.intro hg2 (And.intro hat2 hit2))); clear ho2 hg2 hat2 hit2)
      go_roundw
      case rel =>
        obtain ⟨ho2, hg2, hat2, hit2⟩ := W.out
        obtain ⟨hbi, hb5, hbb, hcw⟩ := V.out
        have hv : itV (pre ++ [k]) bl = #[.int .i64 (i2 : Int), .int .u32 (k : Int), .pointer (some ⟨bl, 0, none⟩)] := by rw [itV, ← HI2.out.1, ← HI2.out.2]
        have hloc : ∀ g, (Value.slice A5 n5 c5).ownBlock = some g → w.heap.size ≤ g := Hwa.out.2.2.2.2.2
        have hc2 : Chg [] w w2 := (hcw.alloc _).grown hg2 (fun g hg => .inr (hloc g hg))
        have hz := hcw.size
        have hb2 : Blk w2 w.heap.size 85 #[.slice Ak nk ck] := (hbb.alloc _).grown hg2 (fun e => own_ne hb5 hbb (by decide) e.symm)
        have ho2' : Own w2 35 (.slice (some ⟨g2, 0, none⟩) (n5 + 1) cap2) ((pre ++ [k]).map vU32) := by
          unfold Own
          rw [List.length_map, List.length_append, ← HN5.out, List.map_append]
          exact ho2
        refine ⟨w2.heap.size, pre ++ [k], rest, rfl, ?_, by rw [hI.out.2]; simp⟩
        rw [← hv]
        refine ⟨hc2.alloc _, hb2.alloc _, Blk.new _ _ _, hc2.size, own_agree ho2' (fun g hg => Below.heap_alloc _ _ _ (own_lt ho2' hg)), fun g hg => ?_⟩
        simp [Value.ownBlock] at hg
        subst hg
        rcases hat2 with e | e
        · exact hloc _ e
        · simp at e; omega
      case measure =>
        have hv : itV (pre ++ [k]) bl = #[.int .i64 (i2 : Int), .int .u32 (k : Int), .pointer (some ⟨bl, 0, none⟩)] := by rw [itV, ← HI2.out.1, ← HI2.out.2]
        have e1 := itAt_eq (show Blk (w2.alloc (.cells (itV (pre ++ [k]) bl) 99)) w2.heap.size 99 (itV (pre ++ [k]) bl) from Blk.new _ _ _)
        rw [hv] at e1
        have e2 := itAt_eq hI.out.1.2.2.1
        show _ - itAt _ _ < _ - itAt _ _
        rw [e1, e2]
        have hgt : (bytesOf pre).length < (bytesOf (pre ++ [k])).length := (bytesOf_lt_iff pre [k]).2 (by simp)
        have hle : (bytesOf (pre ++ [k])).length ≤ (bytesOf L).length := by have h := bytesOf_le (pre ++ [k]) rest; rwa [show (pre ++ [k]) ++ rest = L by rw [hI.out.2]; simp] at h
        omega
end Go.Proofs.YtgoliddhhichgaaGreatDoor
