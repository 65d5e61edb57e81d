/- The walks of the sketch: one register raised, in a row that is owned. -/
import Derived.Test.YtgoliddhhichgaaGreatDoorSkA
namespace Go.Proofs.YtgoliddhhichgaaGreatDoor
open Go.RowKit Pl

/-- A cell of an owned row set. -/
theorem own_set {w : World} {e : TypeId} {g n c i : Nat} {xs : List Value} (h : w.ownsRow 0 e 1 (.slice (some ⟨g, 0, none⟩) n c) n xs) (u : Value) :
    (w.setCell ⟨g, i, none⟩ u).ownsRow 0 e 1 (.slice (some ⟨g, 0, none⟩) n c) n (xs.set i u) := by
  rcases h.2 with ⟨h0, _⟩ | ⟨g', cap, cur, h0, hb, hgg, hnc, hcm, hcur, htake⟩
  · cases h0
  · simp only [Value.slice.injEq, Option.some.injEq, Addr.mk.injEq] at h0
    obtain ⟨⟨rfl, _⟩, _, rfl⟩ := h0
    refine ⟨by simpa using h.1, .inr ⟨g, c, cur.setIfInBounds i u, rfl, hb, ?_, hnc, hcm, by simpa using hcur, ?_⟩⟩
    · simp [World.setCell, Array.getElem?_modify, hgg]
    · rw [← htake]
      simp only [Array.toList_setIfInBounds, Nat.mul_one]
      rw [List.take_set]

set_option maxHeartbeats 400000 in
set_option maxRecDepth 100000 in
/-- (*Sketch).insert, on a row that is owned. -/
theorem insert_own (w : World) (b g n c i v : Nat) (R : List Nat) (hc : w.cell? ⟨b, 5, none⟩ = some (.slice (some ⟨g, 0, none⟩) n c)) (hB : w.ownsRow 0 5 1 (.slice (some ⟨g, 0, none⟩) n c) n (R.map vU8)) (hn : n = R.length) (hi : i < n) (h256 : ∀ r, r ∈ R → r < 256) :
    Calls Tryz.prog 32 #[.pointer (some ⟨b, 0, none⟩), .int .u32 (i : Int), .int .u8 (v : Int)] w fun e w' => e = .returned (.tuple #[]) ∧ w'.ownsRow 0 5 1 (.slice (some ⟨g, 0, none⟩) n c) n ((upd R i v).map vU8) ∧ Chg [g] w w' := by
  obtain ⟨r, hr⟩ : ∃ r, r = R[i]?.getD 0 := ⟨_, rfl⟩
  have hr2 : R[i]? = some r := by
    rw [List.getElem?_eq_getElem (by omega)] at hr ⊢
    rw [hr]; rfl
  have hr256 : r < 256 := h256 r (List.mem_of_getElem? hr2)
  have hcf : w.cell? ⟨g, i, none⟩ = some (.int .u8 (r : Int)) ∧ w.frozen? ⟨g, i, none⟩ = false := by
    rcases own_form hB with ⟨h0, _⟩ | ⟨g', cap, h0, _, _, hcell, hf, _⟩
    · cases h0
    · simp only [Value.slice.injEq, Option.some.injEq, Addr.mk.injEq] at h0
      obtain ⟨⟨rfl, _⟩, _⟩ := h0
      exact ⟨hcell i _ (by rw [List.getElem?_map, hr2]; rfl), hf i⟩
  obtain ⟨hcell, hfz⟩ := hcf
  have hin : (i : Int) < (n : Int) := by omega
  have hi0 : (0 : Int) ≤ (i : Int) := by omega
  have X := Lib.hid (And.intro hB (And.intro hr hn))
  clear hB hr hn hr2 h256
  go_enter Tryz.func32, Tryz.ntmps32
  go_wp2_with fail
  go_region
  go_end0
  obtain ⟨hB, hr, hn⟩ := X.out
  refine ⟨rfl, ?_, ((Chg.refl _ w).setCell (.inl (by simp)) _).drew⟩
  have e2 : vU8 (max v r) = .int .u8 (max (v : Int) (r : Int)) := by
    simp only [vU8]
    congr 1
    omega
  have := own_set (i := i) hB (vU8 (max v r))
  have e : ((upd R i v).map vU8) = (R.map vU8).set i (vU8 (max v r)) := by
    unfold upd
    rw [List.map_set, hr]
  rw [e]
  rw [e2] at this ⊢
  exact own_agree this (fun _ _ => rfl)
end Go.Proofs.YtgoliddhhichgaaGreatDoor
