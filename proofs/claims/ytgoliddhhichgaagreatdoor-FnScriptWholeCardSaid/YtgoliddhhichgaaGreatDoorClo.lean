/- The walk of Clone. -/
import Derived.Test.YtgoliddhhichgaaGreatDoorReg
import Derived.Test.YtgoliddhhichgaaGreatDoorListB
import Derived.Test.YtgoliddhhichgaaGreatDoorSetC
import Derived.Test.YtgoliddhhichgaaGreatDoorSkF
namespace Go.Proofs.YtgoliddhhichgaaGreatDoor
open Go.RowKit Pl

theorem run_store_float (P : Program) (w : World) (a : Addr) (k : FloatKind) (x : Nat) (m : Mode) : (store a (.float k x) m).run P w = stored P w a (.float k x) m := run_store P w a _ m rfl

/-- A new sketch. -/
def NewSk (w : World) (p : Nat) (H : Nat → Prop) (e : Ending) (w' : World) : Prop :=
  ∃ b F, e = .returned (.pointer (some ⟨b, 0, none⟩)) ∧ Sk w' b F p H ∧ Chg [] w w' ∧ Grew w [] F

set_option maxHeartbeats 4000000 in
set_option maxRecDepth 100000 in
theorem cloneS_any (w : World) (b p : Nat) (F T L : List Nat) (H : Nat → Prop) (h10 : p ≤ 10) (h : SkAt w b F p (.sparse T L)) (hsay : Says p H (.sparse T L)) :
    Calls Tryz.prog 14 #[.pointer (some ⟨b, 0, none⟩)] w (NewSk w p H) := by
  obtain ⟨al, bt, Ft, bl, Fl, hb, hs, hl, hF, hFn⟩ := h
  have h2p : 2 ^ p ≤ 2 ^ 10 := Nat.pow_le_pow_right (by omega) h10
  have hTn : T.length < 100000000 := by have := hsay.2.1; omega
  have hLn : (bytesOf L).length < 90000000 := by have := hsay.2.2.1; omega
  obtain ⟨M, hM⟩ : ∃ M, M = 2 ^ p := ⟨_, rfl⟩
  rw [← hM] at hb
  have c0 := hb.cell 0
  have c1 := hb.cell 1
  have c2 := hb.cell 2
  have c3 := hb.cell 3
  have c4 := hb.cell 4
  have c5 := hb.cell 5
  have hlt := hb.lt
  simp at c0 c1 c2 c3 c4 c5
  obtain ⟨w1, hw1⟩ : ∃ w1, w1 = w.alloc (.cells #[.int .u8 (p : Int), .int .u32 (M : Int), .float .f64 al, .pointer (some ⟨bt, 0, none⟩), .pointer (some ⟨bl, 0, none⟩), .slice none 0 0] 59) := ⟨_, rfl⟩
  have X := Lib.hid (And.intro hb (And.intro hs (And.intro hl (And.intro hsay hM))))
  clear hb hs hl hF hFn hsay hM h2p
  have hsf := @run_store_float Tryz.prog
  go_enter Tryz.func14, Tryz.ntmps14
  go_wp2_with (first
    | (at_builtin; refine wpAppNil A22 _ rfl _ _ rfl (.slice none 0 0) 0 [] rfl (World.ownsRow_nil _ _ _ _) rfl ?_))
  rw [← hw1]
  have hc1 : Chg [] w w1 := by rw [hw1]; exact (Chg.refl _ _).alloc _
  have hn1 : Blk w1 w.heap.size 59 #[.int .u8 (p : Int), .int .u32 (M : Int), .float .f64 al, .pointer (some ⟨bt, 0, none⟩), .pointer (some ⟨bl, 0, none⟩), .slice none 0 0] := by rw [hw1]; exact Blk.new _ _ _
  refine (sclone_any w1 bt Ft T (X.out.2.1.chg hc1 (by simp)) hTn).mono ?_
  rintro e w2 ⟨bt', Ft', rfl, hs2, hc2, hg2⟩
  have hz1 : w1.heap.size = w.heap.size + 1 := by rw [hw1]; simp
  have hn2 := hn1.chg hc2 (by simp)
  have x3 := hn2.cell 3
  have f3 := hn2.frozen 3
  have hn3 := hn2.set_ 3 (.pointer (some ⟨bt', 0, none⟩))
  obtain ⟨w3, hw3⟩ : ∃ w3, w3 = w2.setCell ⟨w.heap.size, 3, none⟩ (.pointer (some ⟨bt', 0, none⟩)) := ⟨_, rfl⟩
  rw [← hw3] at hn3
  have hc3 : Chg [] w w3 := by rw [hw3]; exact (hc1.trans hc2 (by simp)).setCell (.inr (Nat.le_refl _)) _
  have hF2 : ∀ k, k ∈ Ft' → w.heap.size < k := fun k hk => by
    rcases hg2 k hk with h | h
    · simp at h
    · omega
  have hs3 : SetAt w3 bt' Ft' T := by rw [hw3]; exact hs2.agree (fun k hk => Below.heap_setCell _ _ _ _ (by have := hF2 k hk; show k ≠ w.heap.size; omega))
  have y4 := (X.out.1.chg (hc1.trans hc2 (by simp)) (by simp)).cell 4
  simp at x3 y4
  have HW3 := Lib.hid hw3
  have Y := Lib.hid (And.intro hn3 (And.intro hc3 (And.intro hF2 hs3)))
  clear hs2 hc2 hg2 hn1 hn2 hn3 hw3 hc3 hF2 hs3 hc1 hw1 hz1 c0 c1 c2 c3 c4 c5
  go_wp2_with fail
  rw [← HW3.out]
  refine (lclone_any w3 bl Fl L (X.out.2.2.1.chg Y.out.2.1 (by simp)) hLn).mono ?_
  rintro e w4 ⟨bl', Fl', rfl, hl4, hc4, hg4⟩
  have hn4 := Y.out.1.chg hc4 (by simp)
  have x4 := hn4.cell 4
  have f4 := hn4.frozen 4
  have hn5 := hn4.set_ 4 (.pointer (some ⟨bl', 0, none⟩))
  simp at x4
  have Z := Lib.hid (And.intro hn5 (And.intro hl4 (And.intro hc4 hg4)))
  clear hn4 hn5 hl4 hc4 hg4 x3 y4 f3
  go_wp2_with fail
  go_ret
  obtain ⟨hn5, hl4, hc4, hg4⟩ := Z.out
  obtain ⟨hn3, hc3, hF2, hs3⟩ := Y.out
  obtain ⟨_, _, _, hsay, hM⟩ := X.out
  have hz3 := hc3.size
  have hn3l := hn3.lt
  have hFl' : ∀ k, k ∈ Fl' → w3.heap.size ≤ k := fun k hk => by
    rcases hg4 k hk with h | h
    · simp at h
    · exact h
  have hc5 : Chg [] w (w4.setCell ⟨w.heap.size, 4, none⟩ (.pointer (some ⟨bl', 0, none⟩))) := (hc3.trans hc4 (by simp)).setCell (.inr (Nat.le_refl _)) _
  have hs5' : SetAt (w4.setCell ⟨w.heap.size, 4, none⟩ (.pointer (some ⟨bl', 0, none⟩))) bt' Ft' T := (hs3.chg hc4 (by simp)).agree (fun k hk => Below.heap_setCell _ _ _ _ (by have := hF2 k hk; show k ≠ w.heap.size; omega))
  have hl5 : ListAt (w4.setCell ⟨w.heap.size, 4, none⟩ (.pointer (some ⟨bl', 0, none⟩))) bl' Fl' L := hl4.agree (fun k hk => Below.heap_setCell _ _ _ _ (by have := hFl' k hk; show k ≠ w.heap.size; omega))
  refine ⟨w.heap.size, _, rfl, ⟨.sparse T L, SkAt.mk (al := al) (by rw [← hM]; simpa using hn5) hs5' hl5 (fun h => by have := hF2 _ h; omega) (fun h => by have := hFl' _ h; omega) (fun k hk hkl => by have := hFl' k hkl; have := hs3.lt k hk; omega), hsay⟩, hc5, fun k hk => ?_⟩
  rcases List.mem_cons.1 hk with rfl | hk
  · exact .inr (Nat.le_refl _)
  · rcases List.mem_append.1 hk with hk | hk
    · have := hF2 k hk; exact .inr (by omega)
    · have := hFl' k hk; exact .inr (by omega)

set_option maxHeartbeats 4000000 in
set_option maxRecDepth 100000 in
theorem cloneD_any (w : World) (b p : Nat) (F R : List Nat) (H : Nat → Prop) (h10 : p ≤ 10) (h : SkAt w b F p (.dense R)) (hsay : Says p H (.dense R)) :
    Calls Tryz.prog 14 #[.pointer (some ⟨b, 0, none⟩)] w (NewSk w p H) := by
  obtain ⟨al, v, hb, ho, hR, h256, hF, hFn⟩ := h
  have h2p : 2 ^ p ≤ 2 ^ 10 := Nat.pow_le_pow_right (by omega) h10
  have h2p0 := Nat.two_pow_pos p
  obtain ⟨g, cc, rfl⟩ : ∃ g c, v = .slice (some ⟨g, 0, none⟩) R.length c := by
    rcases own_form ho with ⟨_, h0, _⟩ | ⟨g, c, h0, _⟩
    · rw [List.length_map] at h0; omega
    · exact ⟨g, c, by simpa using h0⟩
  have ho' : w.ownsRow 0 5 1 (.slice (some ⟨g, 0, none⟩) R.length cc) R.length (R.map vU8) := by unfold Own at ho; rwa [List.length_map] at ho
  obtain ⟨M, hM⟩ : ∃ M, M = R.length := ⟨_, rfl⟩
  have hM2 : 2 ^ p = M := by rw [hM, hR]
  rw [← hM] at ho'
  rw [hM2, ← hM] at hb
  rw [hM2] at h2p h2p0
  have c0 := hb.cell 0
  have c1 := hb.cell 1
  have c2 := hb.cell 2
  have c3 := hb.cell 3
  have c4 := hb.cell 4
  have c5 := hb.cell 5
  have hlt := hb.lt
  simp at c0 c1 c2 c3 c4 c5
  have hgl : g < w.heap.size := own_lt ho' rfl
  obtain ⟨w1, hw1⟩ : ∃ w1, w1 = w.alloc (.cells #[.int .u8 (p : Int), .int .u32 (M : Int), .float .f64 al, .pointer none, .pointer none, .slice (some ⟨g, 0, none⟩) M cc] 59) := ⟨_, rfl⟩
  have ho1 : w1.ownsRow 0 5 1 (.slice (some ⟨g, 0, none⟩) M cc) M (R.map vU8) := by rw [hw1]; exact own_agree ho' (fun g hg => Below.heap_alloc _ _ _ (own_lt ho' hg))
  have hcell : ∀ j u, (R.map vU8)[j]? = some u → w1.cell? ((⟨g, 0, none⟩ : Addr).add j) = some u := fun j u hu => by
    rcases own_form ho1 with ⟨h0, _⟩ | ⟨g', cap, h0, _, _, hcell, _⟩
    · cases h0
    · simp only [Value.slice.injEq, Option.some.injEq, Addr.mk.injEq] at h0
      obtain ⟨⟨rfl, _⟩, _⟩ := h0
      have hadd : (⟨g, 0, none⟩ : Addr).add j = ⟨g, j, none⟩ := by unfold Addr.add; split <;> simp_all
      rw [hadd]
      exact hcell j u hu
  obtain ⟨news, hnews⟩ : ∃ news, news = R.map vU8 := ⟨_, rfl⟩
  rw [← hnews] at hcell ho1
  have hnl : Hid (news.length = M) := by show _ = _; rw [hnews, hM]; simp
  have hn1 : Hid (∀ u ∈ news, u.oneCell' = true) := by show ∀ u ∈ news, _; rw [hnews]; intro v hv; obtain ⟨a, _, rfl⟩ := List.mem_map.1 hv; rfl
  have HCL := Lib.hid hcell
  have X := Lib.hid (And.intro hb (And.intro hsay (And.intro hM (And.intro hM2 (And.intro hR (And.intro h256 (And.intro hnews hw1)))))))
  clear hb hsay hM hM2 hR h256 hF hFn ho ho' ho1 hcell hnews
  have hsf := @run_store_float Tryz.prog
  have hw1' : w.alloc (.cells #[.int .u8 (p : Int), .int .u32 (M : Int), .float .f64 al, .pointer none, .pointer none, .slice (some ⟨g, 0, none⟩) M cc] 59) = w1 := hw1.symm
  have HW1 := Lib.hid hw1'
  have y5 : w1.cell? ⟨w.heap.size, 5, none⟩ = some (.slice (some ⟨g, 0, none⟩) M cc) := by
    rw [hw1]; simp
  clear hw1 hw1'
  go_enter Tryz.func14, Tryz.ntmps14
  go_wp2_with (first
    | (at_builtin; go_must (rw [HW1.out]; refine wpApp A22 _ rfl _ _ rfl (.slice none 0 0) 0 [] rfl (World.ownsRow_nil _ _ _ _) ⟨g, 0, none⟩ M cc news rfl hnl.out HCL.out hn1.out (by omega) (by omega) (by omega) ?_; intro g2 cap2 w2 ho2 hg2 hat2 _; have hN2 : Blk w2 w.heap.size 59 #[.int .u8 (p : Int), .int .u32 (M : Int), .float .f64 al, .pointer none, .pointer none, .slice (some ⟨g, 0, none⟩) M cc] := ((show Blk w1 _ _ _ from by rw [← HW1.out]; exact Blk.new _ _ _).grown hg2 (by simp [Value.ownBlock])); have hc2 : Chg [] w w2 := ((show Chg [] w w1 by rw [← HW1.out]; exact (Chg.refl _ _).alloc _).grown hg2 (by simp [Value.ownBlock])); have z5 := hN2.cell 5; have zf := hN2.frozen 5; have hb2 := X.out.1.chg hc2 (by simp); have z3 := hb2.cell 3; simp at z5 z3; have hlt2 := hN2.lt; have U := Lib.hid (And.intro ho2 (And.intro hN2 (And.intro hc2 (And.intro hb2 hat2)))); clear ho2 hg2 hat2 hN2 hc2 hb2)))
  obtain ⟨w3, hw3⟩ : ∃ w3, w3 = w2.setCell ⟨w.heap.size, 5, none⟩ (.slice (some ⟨g2, 0, none⟩) M cap2) := ⟨_, rfl⟩
  rw [← hw3]
  refine (sclone_nil w3).mono ?_
  rintro e w4 ⟨rfl, hc4⟩
  have hF : Blk w4 w.heap.size 59 #[.int .u8 (p : Int), .int .u32 (M : Int), .float .f64 al, .pointer none, .pointer none, .slice (some ⟨g2, 0, none⟩) M cap2] ∧ Chg [] w w4 ∧ w4.ownsRow 0 5 1 (.slice (some ⟨g2, 0, none⟩) M cap2) M news ∧ w.heap.size < g2 := by
    obtain ⟨ho2, hN2, hc2, hb2, hat2⟩ := U.out
    have hg2l : g2 = w1.heap.size := by
      rcases hat2 with e | e
      · simp [Value.ownBlock] at e
      · exact e
    have hz1 : w1.heap.size = w.heap.size + 1 := by rw [← HW1.out]; simp
    have hN3 : Blk w3 w.heap.size 59 #[.int .u8 (p : Int), .int .u32 (M : Int), .float .f64 al, .pointer none, .pointer none, .slice (some ⟨g2, 0, none⟩) M cap2] := by rw [hw3]; simpa using hN2.set_ 5 (.slice (some ⟨g2, 0, none⟩) M cap2)
    have hc3 : Chg [] w w3 := by rw [hw3]; exact hc2.setCell (.inr (Nat.le_refl _)) _
    have ho3 : w3.ownsRow 0 5 1 (.slice (some ⟨g2, 0, none⟩) M cap2) M news := by
      rw [hw3]
      have h1 : w2.ownsRow 0 5 1 (.slice (some ⟨g2, 0, none⟩) M cap2) M news := by simpa using ho2
      exact own_agree h1 (fun g hg => Below.heap_setCell _ _ _ _ (by simp [Value.ownBlock] at hg; show g ≠ w.heap.size; omega))
    exact ⟨hN3.chg hc4 (by simp), hc3.trans hc4 (by simp), own_agree ho3 (fun g hg => hc4.same (own_lt ho3 hg) (by simp)), by omega⟩
  have FF := Lib.hid hF
  have q3 := hF.1.cell 3
  have qf3 := hF.1.frozen 3
  have q4 := (X.out.1.chg hF.2.1 (by simp)).cell 4
  have r4 := (hF.1.set_ 3 (.pointer none)).cell 4
  have rf4 := (hF.1.set_ 3 (.pointer none)).frozen 4
  simp at q3 q4 r4
  clear hF hc4 hw3 z3 z5 zf
  go_wp2_with fail
  refine (lclone_nil _).mono ?_
  rintro e w5 ⟨rfl, hw5⟩
  subst hw5
  go_wp2_with fail
  go_ret
  obtain ⟨hn4, hc4, ho4, hg2l⟩ := FF.out
  obtain ⟨hb, hsay, hM, hM2, hR, h256, hnews, _⟩ := X.out
  refine ⟨w.heap.size, [w.heap.size, g2], rfl, ⟨.dense R, ⟨al, .slice (some ⟨g2, 0, none⟩) M cap2, ?_, ?_, hR, h256, by simp [Value.ownBlock], by simp; omega⟩, hsay⟩, (hc4.setCell (.inr (Nat.le_refl _)) _).setCell (.inr (Nat.le_refl _)) _, ?_⟩
  · rw [hM2]
    simpa using (hn4.set_ 3 (.pointer none)).set_ 4 (.pointer none)
  · have h1 := own_agree (w' := (w4.setCell ⟨w.heap.size, 3, none⟩ (.pointer none)).setCell ⟨w.heap.size, 4, none⟩ (.pointer none)) ho4 (fun g hg => (Below.heap_setCell _ _ _ _ (by simp [Value.ownBlock] at hg; show g ≠ w.heap.size; omega)).trans (Below.heap_setCell _ _ _ _ (by simp [Value.ownBlock] at hg; show g ≠ w.heap.size; omega)))
    unfold Own
    rw [← hnews, hnl.out]
    exact h1
  · intro k hk
    simp at hk
    exact .inr (by omega)
/-- (*Sketch).Clone. -/
theorem clone_any (w : World) (b p : Nat) (F : List Nat) (H : Nat → Prop) (h10 : p ≤ 10) (h : Sk w b F p H) : Calls Tryz.prog 14 #[.pointer (some ⟨b, 0, none⟩)] w (NewSk w p H) := by
  obtain ⟨rep, hsk, hsay⟩ := h
  cases rep with
  | sparse T L => exact cloneS_any w b p F T L H h10 hsk hsay
  | dense R => exact cloneD_any w b p F R H h10 hsk hsay
end Go.Proofs.YtgoliddhhichgaaGreatDoor
