/- mergeSparse: the plain law of the merge, and the loop's state. -/
import Derived.Test.YtgoliddhhichgaaGreatDoorSkB
import Derived.Test.YtgoliddhhichgaaGreatDoorListB
namespace Go.Proofs.YtgoliddhhichgaaGreatDoor
open Go.RowKit Pl

/-- Strictly increasing. -/
abbrev SInc (L : List Nat) : Prop := L.Pairwise (· < ·)

/-- The merge, half done: pre of L and j of K are in O. -/
def MInv (K L pre : List Nat) (j : Nat) (rest O : List Nat) : Prop :=
  L = pre ++ rest ∧ j ≤ K.length ∧ SInc O ∧ (∀ k, k ∈ O ↔ k ∈ pre ∨ k ∈ K.take j) ∧ (∀ a, a ∈ O → ∀ c, c ∈ rest → a < c) ∧ (∀ a, a ∈ O → ∀ c, c ∈ K.drop j → a < c) ∧ O.length ≤ pre.length + j

section
variable {K L pre rest O : List Nat} {j k : Nat}
theorem MInv.start (K L : List Nat) : MInv K L [] 0 L [] := ⟨rfl, by simp, by simp, by simp, by simp, by simp, by simp⟩
theorem sinc_snoc (hO : SInc O) (h : ∀ a, a ∈ O → a < k) : SInc (O ++ [k]) := by
  show List.Pairwise _ _
  rw [List.pairwise_append]
  exact ⟨hO, by simp, fun a ha c hc => by simp at hc; subst hc; exact h a ha⟩
theorem drop_cons (hj : j < K.length) : K.drop j = K[j] :: K.drop (j + 1) := List.drop_eq_getElem_cons hj
theorem mem_take_succ (hj : j < K.length) (x : Nat) : x ∈ K.take (j + 1) ↔ x ∈ K.take j ∨ x = K[j] := by
  rw [List.take_succ_eq_append_getElem hj, List.mem_append, List.mem_singleton]
theorem tail_lt {k : Nat} {rest : List Nat} (h : SInc (k :: rest)) : ∀ c, c ∈ rest → k < c := fun c hc => (List.pairwise_cons.1 h).1 c hc
/-- The key of K goes. -/
theorem MInv.right (hI : MInv K L pre j rest O) (hK : SInc K) (hj : j < K.length) (hlt : ∀ c, c ∈ rest → K[j] < c) : MInv K L pre (j + 1) rest (O ++ [K[j]]) := by
  obtain ⟨hL, _, hO, hm, h1, h2, hn⟩ := hI
  have hd := drop_cons hj
  have hKd : SInc (K.drop j) := List.Pairwise.sublist (List.drop_sublist _ _) hK
  rw [hd] at hKd h2
  refine ⟨hL, hj, sinc_snoc hO (fun a ha => h2 a ha _ List.mem_cons_self), fun x => ?_, fun a ha c hc => ?_, fun a ha c hc => ?_, by simp; omega⟩
  · rw [mem_take_succ hj, List.mem_append, hm]; simp; grind
  · rcases List.mem_append.1 ha with ha | ha
    · exact h1 a ha c hc
    · simp at ha; subst ha; exact hlt c hc
  · rcases List.mem_append.1 ha with ha | ha
    · exact h2 a ha c (List.mem_cons_of_mem _ hc)
    · simp at ha; subst ha; exact tail_lt hKd c hc
/-- The key of L goes. -/
theorem MInv.left (hI : MInv K L pre j (k :: rest) O) (hL' : SInc L) (hlt : ∀ c, c ∈ K.drop j → k < c) : MInv K L (pre ++ [k]) j rest (O ++ [k]) := by
  obtain ⟨hL, hj, hO, hm, h1, h2, hn⟩ := hI
  have hLd : SInc (k :: rest) := by rw [hL] at hL'; exact (List.pairwise_append.1 hL').2.1
  refine ⟨by simp [hL], hj, sinc_snoc hO (fun a ha => h1 a ha _ (by simp)), fun x => ?_, fun a ha c hc => ?_, fun a ha c hc => ?_, by simp; omega⟩
  · rw [List.mem_append, hm]; simp; grind
  · rcases List.mem_append.1 ha with ha | ha
    · exact h1 a ha c (by simp [hc])
    · simp at ha; subst ha; exact tail_lt hLd c hc
  · rcases List.mem_append.1 ha with ha | ha
    · exact h2 a ha c hc
    · simp at ha; subst ha; exact hlt c hc
/-- Both go. -/
theorem MInv.both (hI : MInv K L pre j (k :: rest) O) (hL' : SInc L) (hK : SInc K) (hj : j < K.length) (he : k = K[j]) : MInv K L (pre ++ [k]) (j + 1) rest (O ++ [k]) := by
  obtain ⟨hL, _, hO, hm, h1, h2, hn⟩ := hI
  have hLd : SInc (k :: rest) := by rw [hL] at hL'; exact (List.pairwise_append.1 hL').2.1
  have hd := drop_cons hj
  have hKd : SInc (K.drop j) := List.Pairwise.sublist (List.drop_sublist _ _) hK
  rw [hd] at hKd h2
  refine ⟨by simp [hL], hj, sinc_snoc hO (fun a ha => h1 a ha _ (by simp)), fun x => ?_, fun a ha c hc => ?_, fun a ha c hc => ?_, by simp; omega⟩
  · rw [mem_take_succ hj, List.mem_append, hm, ← he]; simp; grind
  · rcases List.mem_append.1 ha with ha | ha
    · exact h1 a ha c (by simp [hc])
    · simp at ha; subst ha; exact tail_lt hLd c hc
  · rcases List.mem_append.1 ha with ha | ha
    · exact h2 a ha c (List.mem_cons_of_mem _ hc)
    · simp at ha; subst ha; rw [he]; exact tail_lt hKd c hc
theorem MInv.done (hI : MInv K L pre K.length [] O) : SInc O ∧ ∀ k, k ∈ O ↔ k ∈ L ∨ k ∈ K := by
  obtain ⟨hL, _, hO, hm, _⟩ := hI
  refine ⟨hO, fun k => ?_⟩
  rw [hm, hL]
  simp
end

/-- Memory in the loop: a: the world ahead of the call; kb: the keys' box; it: the iterator; b3: the new list. -/
def MSt (a wr : World) (kb : Nat) (kv : Value) (K : List Nat) (it bl : Nat) (pre : List Nat) (b3 : Nat) (F3 O : List Nat) : Prop :=
  Chg [] a wr ∧ Blk wr kb 85 #[kv] ∧ Own wr 35 kv (K.map vU32) ∧ Blk wr it 99 (itV pre bl) ∧ ListAt wr b3 F3 O ∧ a.heap.size ≤ kb ∧ a.heap.size ≤ it ∧ (∀ g, kv.ownBlock = some g → a.heap.size ≤ g) ∧
    (∀ k, k ∈ F3 → a.heap.size ≤ k ∧ k ≠ kb ∧ k ≠ it ∧ kv.ownBlock ≠ some k)
section
variable {a wr w' : World} {kb it bl b3 : Nat} {kv : Value} {K pre F3 O : List Nat}
theorem MSt.chg (h : MSt a wr kb kv K it bl pre b3 F3 O) (hc : Chg [] wr w') : MSt a w' kb kv K it bl pre b3 F3 O := by
  obtain ⟨h1, h2, h3, h4, h5, h6, h7, h8, h9⟩ := h
  exact ⟨h1.trans hc (by simp), h2.chg hc (by simp), own_agree h3 (fun g hg => hc.same (own_lt h3 hg) (by simp)), h4.chg hc (by simp), h5.chg hc (by simp), h6, h7, h8, h9⟩
theorem MSt.app (h : MSt a wr kb kv K it bl pre b3 F3 O) {F4 : List Nat} {k : Nat} (hl : ListAt w' b3 F4 (O ++ [k])) (hc : Chg F3 wr w') (hg : Grew wr F3 F4) : MSt a w' kb kv K it bl pre b3 F4 (O ++ [k]) := by
  obtain ⟨h1, h2, h3, h4, h5, h6, h7, h8, h9⟩ := h
  refine ⟨h1.trans hc (fun k hk => .inr (h9 k hk).1), h2.chg hc (fun hk => (h9 _ hk).2.1 rfl), own_agree h3 (fun g hg => hc.same (own_lt h3 hg) (fun hk => (h9 _ hk).2.2.2 hg)), h4.chg hc (fun hk => (h9 _ hk).2.2.1 rfl), hl, h6, h7, h8, fun x hx => ?_⟩
  rcases hg x hx with hx | hx
  · exact h9 x hx
  · have := h1.size
    have := h2.lt
    have := h4.lt
    exact ⟨by omega, by omega, by omega, fun e => by have := own_lt h3 e; omega⟩
theorem MSt.it_ (h : MSt a wr kb kv K it bl pre b3 F3 O) {pre' : List Nat} (hb : Blk w' it 99 (itV pre' bl)) (hc : Chg [it] wr w') : MSt a w' kb kv K it bl pre' b3 F3 O := by
  obtain ⟨h1, h2, h3, h4, h5, h6, h7, h8, h9⟩ := h
  have hk : kb ≠ it := h2.ne_ h4 (by decide)
  refine ⟨h1.trans hc (fun k hk => .inr (by simp at hk; omega)), h2.chg hc (by simpa using hk), own_agree h3 (fun g hg => hc.same (own_lt h3 hg) ?_), hb, h5.chg hc (fun k hk => by simpa using (h9 k hk).2.2.1), h6, h7, h8, h9⟩
  simp
  rintro rfl
  exact own_ne h3 h4 (by decide) hg
/-- The iterator is copied at a round's end. -/
theorem MSt.copy (h : MSt a wr kb kv K it bl pre b3 F3 O) : MSt a (wr.alloc (.cells (itV pre bl) 99)) kb kv K wr.heap.size bl pre b3 F3 O := by
  obtain ⟨h1, h2, h3, h4, h5, h6, h7, h8, h9⟩ := h
  refine ⟨h1.alloc _, h2.alloc _, own_agree h3 (fun g hg => Below.heap_alloc _ _ _ (own_lt h3 hg)), Blk.new _ _ _, h5.alloc _, h6, h1.size, h8, fun k hk => ?_⟩
  have := h5.lt k hk
  exact ⟨(h9 k hk).1, (h9 k hk).2.1, by omega, (h9 k hk).2.2.2⟩
end
theorem MSt.kcell {a wr : World} {kb it bl b3 : Nat} {kv : Value} {K pre F3 O : List Nat} (h : MSt a wr kb kv K it bl pre b3 F3 O) : wr.cell? ⟨kb, 0, none⟩ = some kv := by
  have := h.2.1.cell 0
  simpa using this
theorem MSt.key {a wr : World} {kb it bl b3 : Nat} {gk n c : Nat} {K pre F3 O : List Nat} (h : MSt a wr kb (.slice (some ⟨gk, 0, none⟩) n c) K it bl pre b3 F3 O) {j : Nat} (hj : j < K.length) : wr.cell? ⟨gk, j, none⟩ = some (.int .u32 ((K[j] : Nat) : Int)) := by
  rcases own_form h.2.2.1 with ⟨h0, _⟩ | ⟨g, c, h0, _, _, hc, _⟩
  · cases h0
  · simp only [Value.slice.injEq, Option.some.injEq, Addr.mk.injEq] at h0
    obtain ⟨⟨rfl, _⟩, _⟩ := h0
    exact hc j _ (by rw [List.getElem?_map, List.getElem?_eq_getElem hj]; rfl)
theorem MSt.icells {a wr : World} {kb it bl b3 : Nat} {kv : Value} {K pre F3 O : List Nat} (h : MSt a wr kb kv K it bl pre b3 F3 O) {i la : Nat} (hi : i = (bytesOf pre).length) (hla : la = pre.getLastD 0) :
    wr.cell? ⟨it, 0, none⟩ = some (.int .i64 (i : Int)) ∧ wr.cell? ⟨it, 1, none⟩ = some (.int .u32 (la : Int)) ∧ wr.cell? ⟨it, 2, none⟩ = some (.pointer (some ⟨bl, 0, none⟩)) := by
  subst hi; subst hla
  have h4 := h.2.2.2.1
  have c0 := h4.cell 0
  have c1 := h4.cell 1
  have c2 := h4.cell 2
  simp [itV] at c0 c1 c2
  exact ⟨c0, by simpa [List.getLastD_eq_getLast?] using c1, c2⟩
/-- How far an iterator has come. -/
def itAt (w : World) (v : Value) : Nat :=
  match v with
  | .pointer (some p) => match w.cell? p with
    | some x => (intOf x).toNat
    | none => 0
  | _ => 0
theorem itAt_eq {w : World} {it b : Nat} {pre : List Nat} (h : Blk w it 99 (itV pre b)) : itAt w (.pointer (some ⟨it, 0, none⟩)) = (bytesOf pre).length := by
  have := h.cell 0
  simp [itV] at this
  simp [itAt, this, intOf]
end Go.Proofs.YtgoliddhhichgaaGreatDoor
