/- Keys laid in a row and sorted: the closure of mergeSparse, slices.Sort's law for a row of the call's own. -/
import Derived.Test.YtgoliddhhichgaaGreatDoorSort
import Derived.Test.YtgoliddhhichgaaGreatDoorSetD

namespace Go.Proofs.YtgoliddhhichgaaGreatDoor
open Go.RowKit Pl
open Go.Sort

/-- A row of keys in a box. -/
def Keys (a w : World) (c : Nat) (l : List Nat) : Prop :=
  ∃ v, Chg [] a w ∧ Blk w c 85 #[v] ∧ Own w 35 v (l.map vU32) ∧ (∀ g, v.ownBlock = some g → a.heap.size ≤ g) ∧ a.heap.size ≤ c

set_option maxHeartbeats 400000 in
set_option maxRecDepth 100000 in
theorem app73_any (a w : World) (c : Nat) (l : List Nat) (k : Nat) (h : Keys a w c l) (hl : l.length < 100000000) :
    Calls Tryz.prog 73 #[.int .u32 (k : Int), .pointer (some ⟨c, 0, none⟩)] w fun e w' => e = .returned (.tuple #[]) ∧ Keys a w' c (l ++ [k]) ∧ ∀ x t cs, Blk w x t cs → t ≠ 85 → t ≠ 35 → Blk w' x t cs := by
  obtain ⟨v, ha, hbox, ho0, hloc, hac⟩ := h
  have ho : w.ownsRow 0 35 1 v l.length (l.map vU32) := by
    unfold Own at ho0
    rwa [List.length_map] at ho0
  have c0 := hbox.cell 0
  simp at c0
  have hlt := hbox.lt
  have X := Lib.hid (And.intro ha (And.intro hbox (And.intro ho hloc)))
  clear ha hbox hloc ho0
  go_enter Tryz.func73, Tryz.ntmps73
  go_wp2_with (first
    | (at_builtin; refine wpApp A85 _ rfl _ _ rfl v _ (l.map vU32) rfl (ho.alloc _) ⟨w.heap.size, 0, none⟩ 1 1 [vU32 k] rfl rfl (cell_one_new _ _ _) (by simp [Value.oneCell', vU32]) (by omega) (by omega) (by omega) ?_; intro g2 cap2 w2 ho2 hg2 hat2 _; have hb2 := (X.out.2.1.alloc _).grown hg2 (fun e => own_ne X.out.2.2.1 X.out.2.1 (by decide) e.symm); have d2 := hb2.cell 0; have f2 := hb2.frozen 0; simp at d2; have Y := Lib.hid hb2; clear hb2 c0))
  go_end0
  obtain ⟨ha, hbox, ho, hloc⟩ := X.out
  have hb2 := Y.out
  have hcv := own_ne ho hbox (by decide)
  have hg2l : ∀ g, v.ownBlock = some g → g ∈ ([] : List Nat) ∨ a.heap.size ≤ g := fun g hg => .inr (hloc g hg)
  have hg2c : g2 ≠ c := by
    rintro rfl
    rcases hat2 with e | e
    · exact hcv e
    · have := hbox.lt; simp at e; omega
  refine ⟨rfl, ⟨.slice (some ⟨g2, 0, none⟩) (l.length + 1) cap2, ((ha.alloc _).grown hg2 hg2l).setCell (.inr hac) _, by simpa using hb2.set_ 0 _, ?_, ?_, hac⟩, fun x t cs hx h85 h35 => ?_⟩
  · refine own_agree ?_ (fun g hg => Below.heap_setCell _ _ _ g ?_)
    · rw [List.map_append]
      simpa using ho2
    · simp [Value.ownBlock] at hg; subst hg; exact hg2c
  · intro g hg
    simp [Value.ownBlock] at hg
    subst hg
    rcases hat2 with e | e
    · exact hloc _ e
    · have := ha.size; simp at e; omega
  · refine ((hx.alloc _).grown hg2 (fun e => own_ne ho hx (Ne.symm h35) e.symm)).far (hx.ne_ hbox h85) _

/-! ### The sort -/
theorem holds_of_blockU {w : World} {g : Nat} {cur : Array Value} {e : TypeId} {ss : List Int} (hb : w.heap[g]? = some (.cells cur e (0, 0))) (ht : cur.toList.take ss.length = ss.map (Value.int .u32)) : Holds (Value.int .u32) w g 0 ss.toArray := by
  intro j hj
  have hj' : j < ss.length := by simpa using hj
  refine ⟨?_, by simp [World.frozen?, hb]⟩
  have h1 : (cur.toList.take ss.length)[j]? = (ss.map (Value.int .u32))[j]? := by rw [ht]
  rw [List.getElem?_take_of_lt hj'] at h1
  simp only [World.cell?, hb, Nat.zero_add]
  simp only [Option.isSome_none, Bool.false_eq_true, if_false]
  rw [← Array.getElem?_toList, h1]
  simp [hj']
theorem heap_sortedU {w : World} {g n : Nat} {os : Array Obj} {cur : Array Value} {e : TypeId} {fr : Nat × Nat} (d : Array Int) (hb : w.heap[g]? = some (.cells cur e fr)) :
    (grow (putRow (Value.int .u32) (Sort.ahead w n) g 0 d) os).heap[g]? = some (.cells (putCells (Value.int .u32) 0 d cur) e fr) := by
  have hg : g < w.heap.size := (Array.getElem?_eq_some_iff.1 hb).1
  rw [heap_grow_old _ _ (by simpa using hg)]
  simp [putRow, mapBlock, Sort.ahead, Array.getElem?_modify, hb, onCells]
theorem grownBy_sortedU {w : World} {g n : Nat} {os : Array Obj} (d : Array Int) : w.grownBy (grow (putRow (Value.int .u32) (Sort.ahead w n) g 0 d) os) (some g) := by
  refine ⟨rfl, rfl, rfl, by simp, fun k hk hne => ?_⟩
  rw [heap_grow_old _ _ (by simpa using hk)]
  have : g ≠ k := fun e => hne (by rw [e])
  simp [putRow, mapBlock, Sort.ahead, Array.getElem?_modify, this]
theorem take_putCellsU (cur : Array Value) (ts : List Int) (h : ts.length ≤ cur.size) : (putCells (Value.int .u32) 0 ts.toArray cur).toList.take ts.length = ts.map (Value.int .u32) := by
  apply List.ext_getElem?
  intro j
  by_cases hj : j < ts.length
  · rw [List.getElem?_take_of_lt hj, Array.getElem?_toList]
    simp [putCells, hj, show j < cur.size by omega]
  · rw [List.getElem?_take_eq_none (by omega), List.getElem?_eq_none (by simp; omega)]
theorem ownsRow_sortedU {w : World} {base g cap n : Nat} {e : TypeId} {os : Array Obj} {cur : Array Value} {ss ts : List Int} (hl : ts.length = ss.length) (hbase : base ≤ g) (hb : w.heap[g]? = some (.cells cur e (0, 0)))
    (h1 : ss.length ≤ cap) (h2 : cap ≤ maxLen) (h3 : cur.size = cap * 1) :
    (grow (putRow (Value.int .u32) (Sort.ahead w n) g 0 ts.toArray) os).ownsRow base e 1 (.slice (some ⟨g, 0, none⟩) ss.length cap) ss.length (ts.map (Value.int .u32)) :=
  ⟨by simp [hl], .inr ⟨g, cap, _, rfl, hbase, heap_sortedU _ hb, h1, h2, by simp [putCells, h3], by rw [Nat.mul_one, ← hl]; exact take_putCellsU cur ts (by omega)⟩⟩

/-- The keys in order. -/
def sorted (l : List Nat) : List Nat := l.mergeSort fun x y => decide (x ≤ y)
theorem sorted_perm (l : List Nat) : (sorted l).Perm l := List.mergeSort_perm _ _
theorem sorted_le (l : List Nat) : (sorted l).Pairwise (· ≤ ·) := by
  have := List.pairwise_mergeSort (le := fun x y : Nat => decide (x ≤ y)) (fun a b c h1 h2 => by simp at *; omega) (fun a b => by simp; omega) l
  simpa [sorted] using this
theorem sorted_cast (l : List Nat) : ((l.map fun k : Nat => (k : Int)).mergeSort fun x y => decide (x ≤ y)) = (sorted l).map fun k : Nat => (k : Int) := by
  unfold sorted
  rw [List.map_mergeSort]
  intro a _ b _
  simp

/-- slices.Sort of a row of keys that the call owns. -/
theorem sort_own (w : World) (v : Value) (l : List Nat) (h : Own w 35 v (l.map vU32)) (hn : v ≠ .slice none 0 0) (hl : l.length < 100000000) :
    Calls Tryz.prog 74 #[v] w fun e w' => e = .returned (.tuple #[]) ∧ Chg v.ownBlock.toList w w' ∧ Own w' 35 v ((sorted l).map vU32) := by
  rcases h.2 with ⟨h0, _⟩ | ⟨g, cap, cur, rfl, hb, hgg, hnc, hcm, hcur, htake⟩
  · exact absurd h0 hn
  · have hll : (l.map vU32).length = (l.map fun k : Nat => (k : Int)).length := by simp
    have he : l.map vU32 = (l.map fun k : Nat => (k : Int)).map (Value.int .u32) := by simp [vU32]
    rw [hll, Nat.mul_one] at htake
    have hH := holds_of_blockU (ss := l.map fun k : Nat => (k : Int)) hgg (by rw [htake, he])
    rw [hll] at hnc ⊢
    refine (Tryz.slices_Sort_u32 g 0 cap (l.map fun k : Nat => (k : Int)) w hH ((Array.getElem?_eq_some_iff.1 hgg).1) (by simp; omega)).mono ?_
    rintro e w' ⟨rfl, n, os, rfl⟩
    refine ⟨rfl, Chg.of_grown (grownBy_sortedU _) (fun g' hg => .inl (by simp [Value.ownBlock] at hg ⊢; exact hg.symm)), ?_⟩
    have := ownsRow_sortedU (w := w) (base := 0) (n := n) (os := os) (ss := l.map fun k : Nat => (k : Int)) (ts := (l.map fun k : Nat => (k : Int)).mergeSort fun x y => decide (x ≤ y)) (by simp) (Nat.zero_le _) hgg hnc hcm (by simpa using hcur)
    unfold Own
    have e2 : (sorted l).map vU32 = ((l.map fun k : Nat => (k : Int)).mergeSort fun x y => decide (x ≤ y)).map (Value.int .u32) := by rw [sorted_cast]; simp [vU32]
    rw [e2]
    simpa using this
end Go.Proofs.YtgoliddhhichgaaGreatDoor
