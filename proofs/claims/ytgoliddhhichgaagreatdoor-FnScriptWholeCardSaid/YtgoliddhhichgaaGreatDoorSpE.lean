/- What steps do to three sets of hashes, and the memory of spec.Play. -/
import Derived.Test.YtgoliddhhichgaaGreatDoorSpB
import Derived.Test.YtgoliddhhichgaaGreatDoorSpC
namespace Go.Proofs.YtgoliddhhichgaaGreatDoor
open Go.RowKit Pl

def upd3 {α : Type} (V : Nat → α) (i : Nat) (v : α) : Nat → α := fun j => if j = i then v else V j
abbrev arr3 (V : Nat → Value) : Array Value := #[V 0, V 1, V 2]
theorem lt3 {i : Nat} (h : i < 3) : i = 0 ∨ i = 1 ∨ i = 2 := by omega
theorem arr3_get (V : Nat → Value) {i : Nat} (h : i < 3) : (arr3 V)[i]? = some (V i) := by
  rcases lt3 h with rfl | rfl | rfl <;> rfl
theorem arr3_set (V : Nat → Value) {i : Nat} (h : i < 3) (v : Value) : (arr3 V).setIfInBounds i v = arr3 (upd3 V i v) := by
  rcases lt3 h with rfl | rfl | rfl <;> rfl
theorem upd3_same {α : Type} (V : Nat → α) (i : Nat) (v : α) : upd3 V i v i = v := by simp [upd3]
theorem upd3_ne {α : Type} (V : Nat → α) {i j : Nat} (v : α) (h : j ≠ i) : upd3 V i v j = V j := by simp [upd3, h]

/-- What a step does to the sets of hashes. -/
def stepH (s : St) (H : Nat → Nat → Prop) : Nat → Nat → Prop := fun i x =>
  if s.kind = 0 then (if i = s.src then H i x ∨ x = s.hash else H i x)
  else if s.kind = 1 then (if i = s.dst then H s.dst x ∨ H s.src x else H i x)
  else if s.kind = 4 then (if i = s.src then False else H i x)
  else (if i = s.dst then H s.src x else H i x)
def playH (L : List St) : Nat → Nat → Prop := L.foldl (fun H s => stepH s H) (fun _ _ => False)
theorem playH_snoc (L : List St) (s : St) : playH (L ++ [s]) = stepH s (playH L) := by
  unfold playH; rw [List.foldl_append]; rfl

theorem stepH_congr {s : St} {H P : Nat → Nat → Prop} (hx : s.src < 3) (hy : s.dst < 3) (h : ∀ j, j < 3 → ∀ z, H j z ↔ P j z) {j : Nat} (hj : j < 3) (z : Nat) : stepH s H j z ↔ stepH s P j z := by
  unfold stepH
  rw [h j hj z, h s.src hx z, h s.dst hy z]

theorem steps_cells : ∀ (L : List St) (i r : Nat) (s : St), L[i]? = some s → r < 4 → (L.flatMap stc)[4 * i + r]? = (stc s)[r]?
  | [], i, r, s, h, _ => by simp at h
  | a :: L, 0, r, s, h, hr => by
    simp at h
    subst h
    rw [List.flatMap_cons, List.getElem?_append_left (by simp [stc]; omega)]
    simp
  | a :: L, i + 1, r, s, h, hr => by
    rw [List.flatMap_cons, List.getElem?_append_right (by simp [stc]; omega)]
    rw [show 4 * (i + 1) + r - (stc a).length = 4 * i + r by simp [stc]; omega]
    exact steps_cells L i r s (by simpa using h) hr

/-- The steps' cells. -/
theorem steps_at {w : World} {A : Option Addr} {n c : Nat} {L : List St} (h : w.ownsRow 0 40 4 (.slice A n c) n (L.flatMap stc)) (hn : n = L.length) :
    ∀ W, Chg [] w W → ∀ (i : Nat) (s : St), L[i]? = some s → ∃ g, A = some ⟨g, 0, none⟩ ∧ ∀ (r : Nat) (u : Value), (stc s)[r]? = some u → r < 4 → W.cell? ⟨g, i * 4 + r, none⟩ = some u := fun W hc i s hs => by
  have hi := (List.getElem?_eq_some_iff.1 hs).1
  obtain ⟨g, hA⟩ : ∃ g, A = some ⟨g, 0, none⟩ := by
    rcases h.2 with ⟨_, h0⟩ | ⟨g, cap, cur, h0, _⟩
    · omega
    · simp only [Value.slice.injEq] at h0
      exact ⟨g, h0.1⟩
  subst hA
  refine ⟨g, rfl, fun r u hu hr => ?_⟩
  have h1 := h.cells (g := g) rfl (4 * i + r) u (by rw [steps_cells L i r s hs hr]; exact hu)
  have h2 : (⟨g, 0, none⟩ : Addr).add (4 * i + r) = ⟨g, 4 * i + r, none⟩ := by unfold Addr.add; split <;> simp_all
  rw [h2, Nat.mul_comm 4 i] at h1
  rw [(hc.below (Nat.le_refl _) (fun k hk => by cases hk)).cell (by exact (h.lt g rfl).2)]
  exact h1

/-- A list without doubles among the members of another is no longer. -/
theorem nodup_le {T : List Nat} : ∀ (P : List Nat), T.Nodup → (∀ x, x ∈ T → x ∈ P) → T.length ≤ P.length := by
  induction T with
  | nil => intro P _ _; simp
  | cons a T ih =>
    intro P hn hs
    rw [List.nodup_cons] at hn
    have ha : a ∈ P := hs a (by simp)
    have h1 := ih (P.erase a) hn.2 (fun x hx => (List.mem_erase_of_ne (by rintro rfl; exact hn.1 hx)).2 (hs x (by simp [hx])))
    have h2 := List.length_erase_of_mem ha
    have h3 := List.length_pos_of_mem ha
    simp
    omega

/-- The memory of Play's three lists. -/
structure PSt (w wr : World) (b0 b : Nat) (V : Nat → Value) (LL : Nat → List Nat) (k : Nat) (P : List Nat) (H : Nat → Nat → Prop) : Prop where
  blk : Blk wr b 30 (arr3 V)
  own : ∀ i, i < 3 → wr.ownsRow 0 38 1 (V i) (LL i).length ((LL i).map vU64)
  fresh : ∀ i, i < 3 → ∀ g, (V i).ownBlock = some g → w.heap.size ≤ g
  apart : ∀ i j, i < 3 → j < 3 → i ≠ j → ∀ g, (V i).ownBlock = some g → (V j).ownBlock ≠ some g
  small : ∀ i, i < 3 → (LL i).length ≤ k
  sub : ∀ i, i < 3 → ∀ x, x ∈ LL i → x ∈ P
  says : ∀ i, i < 3 → ∀ x, x ∈ LL i ↔ H i x
  chg : Chg [] w wr
  bnew : w.heap.size ≤ b
  res : Blk wr b0 30 (arr3 fun _ => .slice none 0 0)
  ne : b0 ≠ b
  b0new : w.heap.size ≤ b0

theorem PSt.far {w wr : World} {b0 b k : Nat} {V : Nat → Value} {LL : Nat → List Nat} {P : List Nat} {H : Nat → Nat → Prop} (h : PSt w wr b0 b V LL k P H) {i : Nat} (hi : i < 3) : (V i).ownBlock ≠ some b := own_ne (h.own i hi) h.blk (by decide)
theorem PSt.chg' {w wr wr' : World} {b0 b k : Nat} {V : Nat → Value} {LL : Nat → List Nat} {P : List Nat} {H : Nat → Nat → Prop} (h : PSt w wr b0 b V LL k P H) (hc : Chg [] wr wr') : PSt w wr' b0 b V LL k P H :=
  ⟨h.blk.chg hc (by simp), fun i hi => own_agree (h.own i hi) (fun _ hg => hc.same (own_lt (h.own i hi) hg) (by simp)), h.fresh, h.apart, h.small, h.sub, h.says, h.chg.trans hc (by simp), h.bnew, h.res.chg hc (by simp), h.ne, h.b0new⟩
theorem PSt.mono {w wr : World} {b0 b k k' : Nat} {V : Nat → Value} {LL : Nat → List Nat} {P P' : List Nat} {H : Nat → Nat → Prop} (h : PSt w wr b0 b V LL k P H) (hk : k ≤ k') (hP : ∀ x, x ∈ P → x ∈ P') : PSt w wr b0 b V LL k' P' H :=
  ⟨h.blk, h.own, h.fresh, h.apart, fun i hi => Nat.le_trans (h.small i hi) hk, fun i hi x hx => hP x (h.sub i hi x hx), h.says, h.chg, h.bnew, h.res, h.ne, h.b0new⟩

theorem PSt.cap {w wr : World} {b0 b k k' : Nat} {V : Nat → Value} {LL : Nat → List Nat} {P : List Nat} {H : Nat → Nat → Prop} (h : PSt w wr b0 b V LL k P H) (hk : ∀ i, i < 3 → (LL i).length ≤ k') : PSt w wr b0 b V LL k' P H :=
  ⟨h.blk, h.own, h.fresh, h.apart, hk, h.sub, h.says, h.chg, h.bnew, h.res, h.ne, h.b0new⟩

/-- A list is put in another's place. -/
theorem PSt.upd {w wr w1 : World} {b0 b k k' t n' : Nat} {V : Nat → Value} {LL : Nat → List Nat} {P P' L' : List Nat} {H H' : Nat → Nat → Prop} {v' : Value} (h : PSt w wr b0 b V LL k P H) (ht : t < 3) {G : List Nat} (hc : Chg G wr w1) (hG : ∀ g, g ∈ G → (V t).ownBlock = some g)
    (ho : w1.ownsRow 0 38 1 v' n' (L'.map vU64)) (hb : ∀ g, v'.ownBlock = some g → (V t).ownBlock = some g ∨ wr.heap.size ≤ g) (hk : k ≤ k') (hl : L'.length ≤ k') (hP : ∀ x, x ∈ P → x ∈ P') (hL : ∀ x, x ∈ L' → x ∈ P')
    (hs : ∀ i, i < 3 → ∀ x, H' i x ↔ if i = t then x ∈ L' else H i x) : PSt w (w1.setCell ⟨b, t, none⟩ v') b0 b (upd3 V t v') (upd3 LL t L') k' P' H' := by
  have hn' : n' = L'.length := by have := ho.1; simp at this; exact this.symm
  subst hn'
  have hbG : b ∉ G := fun hm => h.far ht (hG b hm)
  have hwz := h.chg.size
  have hcz := hc.size
  have hblt := h.blk.lt
  refine ⟨?_, fun i hi => ?_, fun i hi g hg => ?_, fun i j hi hj hij g hg => ?_, fun i hi => ?_, fun i hi x hx => ?_, fun i hi x => ?_, ?_, h.bnew, ?_, h.ne, h.b0new⟩
  · have h1 := (h.blk.chg hc hbG).set_ t v'
    rwa [arr3_set V ht] at h1
  · by_cases hit : i = t
    · subst hit
      rw [upd3_same, upd3_same]
      refine own_agree ho (fun g hg => Below.heap_setCell _ _ _ _ ?_)
      rintro rfl
      rcases hb _ hg with h1 | h1
      · exact h.far ht h1
      · exact absurd h1 (by omega)
    · rw [upd3_ne V v' hit, upd3_ne LL L' hit]
      refine own_agree (h.own i hi) (fun g hg => ?_)
      rw [Below.heap_setCell _ _ _ _ (by rintro rfl; exact h.far hi hg)]
      exact hc.same (own_lt (h.own i hi) hg) (fun hm => h.apart t i ht hi (Ne.symm hit) g (hG g hm) hg)
  · by_cases hit : i = t
    · subst hit
      rw [upd3_same] at hg
      rcases hb _ hg with h1 | h1
      · exact h.fresh i hi g h1
      · omega
    · rw [upd3_ne V v' hit] at hg
      exact h.fresh i hi g hg
  · by_cases hit : i = t
    · subst hit
      rw [upd3_same] at hg
      rw [upd3_ne V v' (Ne.symm hij)]
      rcases hb _ hg with h1 | h1
      · exact h.apart i j hi hj hij g h1
      · intro hg2
        have := own_lt (h.own j hj) hg2
        omega
    · rw [upd3_ne V v' hit] at hg
      by_cases hjt : j = t
      · subst hjt
        rw [upd3_same]
        intro hg2
        rcases hb _ hg2 with h1 | h1
        · exact h.apart i j hi hj hij g hg h1
        · have := own_lt (h.own i hi) hg
          omega
      · rw [upd3_ne V v' hjt]
        exact h.apart i j hi hj hij g hg
  · by_cases hit : i = t
    · subst hit; rw [upd3_same]; exact hl
    · rw [upd3_ne LL L' hit]; exact Nat.le_trans (h.small i hi) hk
  · by_cases hit : i = t
    · subst hit; rw [upd3_same] at hx; exact hL x hx
    · rw [upd3_ne LL L' hit] at hx; exact hP x (h.sub i hi x hx)
  · rw [hs i hi x]
    by_cases hit : i = t
    · subst hit; rw [upd3_same, if_pos rfl]
    · rw [upd3_ne LL L' hit, if_neg hit]; exact h.says i hi x
  · refine Chg.setCell ?_ (.inr h.bnew) _
    exact h.chg.trans hc (fun g hg => .inr (h.fresh t ht g (hG g hg)))
  · refine (h.res.chg hc (fun hm => ?_)).far h.ne v'
    exact own_ne (h.own t ht) h.res (by decide) (hG b0 hm)

theorem takeS {L : List St} {i : Nat} {s : St} (h : L[i]? = some s) : L.take (i + 1) = L.take i ++ [s] := by
  rw [List.take_add_one, h]; rfl

/-- A step of Play, its store behind it. -/
theorem ps_step {w w1 w2 : World} {b0 b i t n' y sx : Nat} {V : Nat → Value} {LL : Nat → List Nat} {L : List St} {s : St} {L' G : List Nat} {v' : Value} {cs : Array Value}
    (h : PSt w w1 b0 b V LL (20000 + i) ((L.take i).map St.hash) (playH (L.take i))) (hx : Blk w1 sx 40 cs) (ht : t < 3) (hi : i ≤ 5120) (hls : L[i]? = some s) (hc : Chg G w1 w2) (hG : ∀ g, g ∈ G → (V t).ownBlock = some g)
    (ho : w2.ownsRow 0 38 1 v' n' (L'.map vU64)) (hb : ∀ g, v'.ownBlock = some g → (V t).ownBlock = some g ∨ w1.heap.size ≤ g) (hl : L'.length ≤ 60000) (hL : ∀ z, z ∈ L' → z ∈ (L.take i).map St.hash ∨ z = s.hash)
    (hs : ∀ j, j < 3 → ∀ z, stepH s (playH (L.take i)) j z ↔ if j = t then z ∈ L' else playH (L.take i) j z) (hty : t = y ∨ L'.length ≤ 20000 + (i + 1)) :
    PSt w (w2.setCell ⟨b, t, none⟩ v') b0 b (upd3 V t v') (upd3 LL t L') 60000 ((L.take (i + 1)).map St.hash) (playH (L.take (i + 1))) ∧ (∀ j, j < 3 → j ≠ y → (upd3 LL t L' j).length ≤ 20000 + (i + 1)) ∧ Blk (w2.setCell ⟨b, t, none⟩ v') sx 40 cs := by
  have hT := takeS hls
  have hne : sx ≠ b := Blk.ne_ hx h.blk (by decide)
  refine ⟨h.upd ht hc hG ho hb (by omega) hl (fun z hz => ?_) (fun z hz => ?_) (by rw [hT, playH_snoc]; exact hs), fun j hj hjy => ?_, (hx.chg hc (fun hm => own_ne (h.own t ht) hx (by decide) (hG sx hm))).far hne v'⟩
  · rw [hT, List.map_append]; exact List.mem_append_left _ hz
  · rw [hT, List.map_append, List.mem_append]
    rcases hL z hz with h1 | h1
    · exact .inl h1
    · exact .inr (by simp [h1])
  · by_cases hjt : j = t
    · subst hjt
      rw [upd3_same]
      rcases hty with h1 | h1
      · exact absurd h1 hjy
      · exact h1
    · rw [upd3_ne LL L' hjt]
      have := h.small j hj
      omega
end Go.Proofs.YtgoliddhhichgaaGreatDoor
