/- The walk of ZZState: a dense sketch. -/
import Derived.Test.YtgoliddhhichgaaGreatDoorMarA
import Derived.Test.YtgoliddhhichgaaGreatDoorSetD
import Derived.Deep.AppendLies
namespace Go.Proofs.YtgoliddhhichgaaGreatDoor
open Go.RowKit Pl

/-- What ZZState leaves of a dense sketch. -/
def ZzD (w : World) (p : Nat) (R : List Nat) (e : Ending) (w' : World) : Prop :=
  ∃ v0 v1 v2, e = .returned (.tuple #[.int .u8 (p : Int), .bool false, v0, v1, v2]) ∧ Chg [] w w' ∧ Own w' 5 v2 (R.map vU8) ∧ (∀ g, v2.ownBlock = some g → w.heap.size ≤ g)

set_option maxHeartbeats 4000000 in
set_option maxRecDepth 100000 in
theorem zzD_any (w : World) (b p : Nat) (F R : List Nat) (h10 : p ≤ 10) (h : SkAt w b F p (.dense R)) :
    Calls Tryz.prog 45 #[.pointer (some ⟨b, 0, none⟩)] w (ZzD w p R) := by
  obtain ⟨al, v, hb, ho, hR, h256, hF, hFn⟩ := h
  have h2p : 2 ^ p ≤ 2 ^ 10 := Nat.pow_le_pow_right (by omega) h10
  have h2p0 := Nat.two_pow_pos p
  obtain ⟨i0, hi0, hz0, hz1, hz2⟩ := info_parts A22.info
  obtain ⟨M, hM⟩ : ∃ M, M = R.length := ⟨_, rfl⟩
  obtain ⟨g, cc, rfl⟩ : ∃ g c, v = .slice (some ⟨g, 0, none⟩) M c := by
    rcases own_form ho with ⟨_, h0, _⟩ | ⟨g, c, h0, _⟩
    · rw [List.length_map] at h0; omega
    · exact ⟨g, c, by rw [hM]; simpa using h0⟩
  have ho' : w.ownsRow 0 5 1 (.slice (some ⟨g, 0, none⟩) M cc) M (R.map vU8) := by unfold Own at ho; rwa [List.length_map, ← hM] at ho
  have hM0 : 0 < M := by omega
  have hM1 : M ≤ 1024 := by omega
  have c3 := hb.cell 3
  have hlt := hb.lt
  simp at c3
  obtain ⟨news, hnews⟩ : ∃ news, news = R.map vU8 := ⟨_, rfl⟩
  rw [← hnews] at ho'
  have hnl : Hid (news.length = M) := by show _ = _; rw [hnews, hM]; simp
  have hn1 : Hid (∀ u ∈ news, u.oneCell' = true) := by show ∀ u ∈ news, _; rw [hnews]; intro v hv; obtain ⟨a, _, rfl⟩ := List.mem_map.1 hv; rfl
  have X := Lib.hid (And.intro hb (And.intro ho' hnews))
  clear hb ho ho' hR h256 hF hFn h2p h2p0 hM hnews
  go_enter Tryz.func45, Tryz.ntmps45
  go_wp2_with fail
  refine (sforEach_nil _ _ _).mono ?_
  rintro e w2 ⟨rfl, hc2⟩
  have hcw : Chg [] w w2 := ((Chg.refl _ _).alloc _).trans hc2 (by simp)
  have hb2 := X.out.1.chg hcw (by simp)
  have hx2 : Blk w2 w.heap.size 85 #[.slice none 0 0] := (Blk.new w 85 #[.slice none 0 0]).chg hc2 (by simp)
  have d0 := hb2.cell 0
  have d4 := hb2.cell 4
  have d5 := hb2.cell 5
  have dx := hx2.cell 0
  have dxf := hx2.frozen 0
  simp at d0 d4 d5 dx
  have Y := Lib.hid (And.intro hcw (And.intro hb2 hx2))
  clear hcw hb2 hx2 hc2 c3
  go_wp2_with fail
  have hrow : w2.drew.ownsRow 0 5 1 (.slice (some ⟨g, 0, none⟩) M cc) M news := own_agree X.out.2.1 (fun g hg => Y.out.1.same (own_lt X.out.2.1 hg) (by simp))
  have HROW := Lib.hid hrow
  have hltb := Y.out.2.1.lt
  have hltx := Y.out.2.2.lt
  clear hrow
  go_region_held3 (fun w' => w'.cell? ⟨b, 0, none⟩ = some (.int .u8 (p : Int)) ∧ w'.cell? ⟨b, 5, none⟩ = some (.slice (some ⟨g, 0, none⟩) M cc) ∧ w'.cell? ⟨w.heap.size, 0, none⟩ = some (.slice none 0 0) ∧ w'.frozen? ⟨w.heap.size, 0, none⟩ = false)
    (first | exact hKeep | exact hKeep2 | go_keep)
    (first
      | (go_at_call 27; go_must (refine (sparse_any _ b none (by first | exact d4 | exact hK4)).mono ?_); rintro e w' ⟨rfl, rfl⟩)
      | (refine step_append_lies _ (by rfl) _ _ _ (by rfl) 0 5 i0 (.int .u8 0) 1 1 A22.ht hi0 hz0 hz1 hz2 rfl (by omega) (.slice none 0 0) 0 [] (by rfl) (World.ownsRow_nil _ _ _ _) ⟨g, 0, none⟩ M cc news (by rfl) (by rw [hnl.out, Nat.mul_one]) (row_cells HROW.out) hn1.out hM0 (by unfold maxLen; omega) (by omega) (Nat.zero_le _) w2.heap.size (by rfl) ?_; intro g2 cap2 w3 ho3 hg3 hat3 hlt3; have hb3 := Y.out.2.1.drew.grown hg3 (by simp [Value.ownBlock]); have hx3 := Y.out.2.2.drew.grown hg3 (by simp [Value.ownBlock]); have k0 := hb3.cell 0; have k4 := hb3.cell 4; have k5 := hb3.cell 5; have kx := hx3.cell 0; have kxf := hx3.frozen 0; simp at k0 k4 k5 kx; have hK4 : w3.cell? ⟨b, 4, none⟩ = some (.pointer none) := k4; have hKeep : w3.cell? ⟨b, 0, none⟩ = some (.int .u8 (p : Int)) ∧ w3.cell? ⟨b, 5, none⟩ = some (.slice (some ⟨g, 0, none⟩) M cc) ∧ w3.cell? ⟨w.heap.size, 0, none⟩ = some (.slice none 0 0) ∧ w3.frozen? ⟨w.heap.size, 0, none⟩ = false := ⟨k0, k5, kx, kxf⟩; have hb4 := hb3.far (p := ⟨w.heap.size, 0, none⟩) (by show b ≠ w.heap.size; omega) (.slice none 0 0); have hx4 := hx3.set_ 0 (.slice none 0 0); have m0 := hb4.cell 0; have m5 := hb4.cell 5; have mx := hx4.cell 0; have mxf := hx4.frozen 0; simp at m0 m5 mx; have hKeep2 : (w3.setCell ⟨w.heap.size, 0, none⟩ (.slice none 0 0)).cell? ⟨b, 0, none⟩ = some (.int .u8 (p : Int)) ∧ (w3.setCell ⟨w.heap.size, 0, none⟩ (.slice none 0 0)).cell? ⟨b, 5, none⟩ = some (.slice (some ⟨g, 0, none⟩) M cc) ∧ (w3.setCell ⟨w.heap.size, 0, none⟩ (.slice none 0 0)).cell? ⟨w.heap.size, 0, none⟩ = some (.slice none 0 0) ∧ (w3.setCell ⟨w.heap.size, 0, none⟩ (.slice none 0 0)).frozen? ⟨w.heap.size, 0, none⟩ = false := ⟨m0, m5, by simpa using hx4.cell 0, mxf⟩; clear hb4 hx4 m0 m5 mx mxf; have Z := Lib.hid (And.intro ho3 (And.intro hg3 (And.intro hat3 hx3))); clear ho3 hg3 hat3 hb3 hx3 k0 k5))
  have kx' : (w3.setCell ⟨w.heap.size, 0, none⟩ (.slice none 0 0)).cell? ⟨w.heap.size, 0, none⟩ = some (.slice none 0 0) := hKeep2.2.2.1
  clear hKeep hKeep2 hK4 k4 kx kxf
  go_wp2_with fail
  refine bodyPost_ret (v := .tuple #[.int .u8 (p : Int), .bool false, .slice none 0 0, .slice none 0 0, .slice (some ⟨g2, 0, none⟩) M cap2]) (by simp [results, Tryz.results45, go_sem, kx']) rfl ?_
  obtain ⟨ho3, hg3, hat3, hx3⟩ := Z.out
  obtain ⟨hcw, _, _⟩ := Y.out
  have hg2 : g2 = w2.heap.size := by
    rcases hat3 with e | e
    · simp [Value.ownBlock] at e
    · exact e
  have hz := hcw.size
  have ho3' : w3.ownsRow 0 5 1 (.slice (some ⟨g2, 0, none⟩) M cap2) M news := by simpa using ho3
  refine ⟨_, _, _, rfl, (hcw.drew.grown hg3 (by simp [Value.ownBlock])).setCell (.inr (Nat.le_refl _)) _, ?_, fun g hg => by simp [Value.ownBlock] at hg; omega⟩
  rw [X.out.2.2] at ho3' hnl
  have hl := hnl.out
  unfold Own
  rw [hl]
  exact own_agree ho3' (fun g hg => Below.heap_setCell _ _ _ _ (by simp [Value.ownBlock] at hg; show g ≠ w.heap.size; omega))
end Go.Proofs.YtgoliddhhichgaaGreatDoor
