/- The walks of the sketch: one register; which form it has. -/
import Derived.Test.YtgoliddhhichgaaGreatDoorListB
import Derived.Test.YtgoliddhhichgaaGreatDoorNum
namespace Go.Proofs.YtgoliddhhichgaaGreatDoor
open Go.RowKit Pl

/-- One register raised. -/
def upd (R : List Nat) (i v : Nat) : List Nat := R.set i (max v (R[i]?.getD 0))
theorem upd_len (R : List Nat) (i v : Nat) : (upd R i v).length = R.length := by simp [upd]

set_option maxHeartbeats 400000 in
set_option maxRecDepth 100000 in
/-- (*Sketch).sparse. -/
theorem sparse_any (w : World) (b : Nat) (q : Option Addr) (h : w.cell? ⟨b, 4, none⟩ = some (.pointer q)) :
    Calls Tryz.prog 27 #[.pointer (some ⟨b, 0, none⟩)] w fun e w' => e = .returned (.bool q.isSome) ∧ w = w' := by
  go_enter Tryz.func27, Tryz.ntmps27
  cases q <;> (go_wp2; go_ret; exact ⟨rfl, rfl⟩)

set_option maxHeartbeats 400000 in
set_option maxRecDepth 100000 in
/-- (*Sketch).insert, as it turns memory. -/
theorem insert_raw (w : World) (b g n c i v : Nat) (R : List Nat) (hc : w.cell? ⟨b, 5, none⟩ = some (.slice (some ⟨g, 0, none⟩) n c)) (hB : Blk w g 5 (R.map vU8).toArray) (hn : n = R.length) (hi : i < n)
    (h256 : ∀ r, r ∈ R → r < 256) :
    Calls Tryz.prog 32 #[.pointer (some ⟨b, 0, none⟩), .int .u32 (i : Int), .int .u8 (v : Int)] w fun e w' => e = .returned (.tuple #[]) ∧ Blk w' g 5 ((upd R i v).map vU8).toArray ∧ Chg [g] w w' := by
  obtain ⟨r, hr⟩ : ∃ r, r = R[i]?.getD 0 := ⟨_, rfl⟩
  have hr2 : R[i]? = some r := by
    rw [List.getElem?_eq_getElem (by omega)] at hr ⊢
    rw [hr]; rfl
  have hr256 : r < 256 := h256 r (List.mem_of_getElem? hr2)
  have hcell := hB.cell i
  have hfz := hB.frozen i
  simp [hr2, vU8] at hcell
  have hin : (i : Int) < (n : Int) := by omega
  have hi0 : (0 : Int) ≤ (i : Int) := by omega
  have X := Lib.hid (And.intro hB (And.intro hr hn))
  clear hB hr hn hr2 h256
  go_enter Tryz.func32, Tryz.ntmps32
  go_wp2_with fail
  go_region
  go_end0
  obtain ⟨hB, hr, hn⟩ := X.out
  refine ⟨rfl, ?_, ((Chg.refl _ w).setCell (.inl (by simp)) _).drew⟩
  have := (hB.set_ i (vU8 (max v r))).drew
  have e : ((upd R i v).map vU8).toArray = ((R.map vU8).toArray).setIfInBounds i (vU8 (max v r)) := by
    unfold upd
    rw [List.map_set, hr]
    simp
  rw [e]
  have e2 : vU8 (max v r) = .int .u8 (max (v : Int) (r : Int)) := by
    simp only [vU8]
    congr 1
    omega
  rw [e2] at this ⊢
  exact this
end Go.Proofs.YtgoliddhhichgaaGreatDoor
