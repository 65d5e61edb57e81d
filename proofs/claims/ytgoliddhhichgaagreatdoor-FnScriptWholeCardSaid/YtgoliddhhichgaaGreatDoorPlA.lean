/- The memory of impl.Play: three sketches. -/
import Derived.Test.YtgoliddhhichgaaGreatDoorSpE
import Derived.Test.YtgoliddhhichgaaGreatDoorRg
import Derived.Test.YtgoliddhhichgaaGreatDoorMer
import Derived.Test.YtgoliddhhichgaaGreatDoorNew
import Derived.Test.YtgoliddhhichgaaGreatDoorUnE
namespace Go.Proofs.YtgoliddhhichgaaGreatDoor
open Go.RowKit Pl

theorem Sk.chg {w w' : World} {b p : Nat} {F G : List Nat} {H : Nat → Prop} (h : Sk w b F p H) (hc : Chg G w w') (hd : ∀ k, k ∈ F → k ∉ G) : Sk w' b F p H := by
  obtain ⟨rep, h1, h2⟩ := h
  exact ⟨rep, h1.chg hc hd, h2⟩
theorem Sk.lt {w : World} {b p : Nat} {F : List Nat} {H : Nat → Prop} (h : Sk w b F p H) : ∀ k, k ∈ F → k < w.heap.size := by
  obtain ⟨rep, h1, _⟩ := h
  exact h1.lt
theorem Sk.congr {w : World} {b p : Nat} {F : List Nat} {H H' : Nat → Prop} (h : Sk w b F p H) (he : ∀ x, H x ↔ H' x) : Sk w b F p H' := by
  obtain ⟨rep, h1, h2⟩ := h
  exact ⟨rep, h1, h2.congr he⟩

/-- What reading a written sketch asks of its form. -/
theorem rep_ok {w : World} {b p : Nat} {F : List Nat} {rep : Rep} {H : Nat → Prop} (h : SkAt w b F p rep) (hs : Says p H rep) (hH : Hs H) : (match rep with | .sparse T L => T.Nodup ∧ (∀ k, k ∈ T ∨ k ∈ L → k < 4294967296) | .dense R => R.length = 2 ^ p) := by
  cases rep with
  | sparse T L =>
    obtain ⟨al, bt, Ft, bl, Fl, _, hT, _, _, _⟩ := h
    obtain ⟨_, _, _, _, _, hn, _, _, _⟩ := hT
    refine ⟨hn, fun k hk => ?_⟩
    obtain ⟨x, hx, rfl⟩ := (hs.2.2.2 k).1 hk
    exact enc_lt p x (hH x hx)
  | dense R =>
    obtain ⟨al, v, _, _, hl, _⟩ := h
    exact hl

structure PI (w wr : World) (N b4 b6 b8 p m : Nat) (sp : Array Value) (V : Nat → Value) (B : Nat → Nat) (FF : Nat → List Nat) (H : Nat → Nat → Prop) : Prop where
  arr : Blk wr b8 43 (arr3 V)
  ptr : ∀ i, i < m → V i = .pointer (some ⟨B i, 0, none⟩)
  sk : ∀ i, i < m → Sk wr (B i) (FF i) p (H i)
  fresh : ∀ i, i < m → ∀ k, k ∈ FF i → N ≤ k
  apart : ∀ i j, i < m → j < m → i ≠ j → ∀ k, k ∈ FF i → k ∉ FF j
  hs : ∀ i, i < m → Hs (H i)
  chg : Chg [] w wr
  res : Blk wr b6 25 (arr3 fun _ => .slice none 0 0)
  spz : Blk wr b4 28 sp
  l4 : b4 < N
  l6 : b6 < N
  l8 : b8 < N
  w6 : w.heap.size ≤ b6
  w8 : w.heap.size ≤ b8
  n4 : b4 ≠ b8
  n6 : b6 ≠ b8
  low : N ≤ wr.heap.size
  wN : w.heap.size ≤ N

section
variable {w wr w1 : World} {N b4 b6 b8 p m : Nat} {sp : Array Value} {V : Nat → Value} {B : Nat → Nat} {FF : Nat → List Nat} {H : Nat → Nat → Prop}

theorem PI.chg' (h : PI w wr N b4 b6 b8 p m sp V B FF H) (hc : Chg [] wr w1) : PI w w1 N b4 b6 b8 p m sp V B FF H :=
  { h with arr := h.arr.chg hc (by simp), sk := fun i hi => (h.sk i hi).chg hc (by simp), chg := h.chg.trans hc (by simp), res := h.res.chg hc (by simp), spz := h.spz.chg hc (by simp), low := Nat.le_trans h.low hc.size }

/-- A method changes one of the sketches. -/
theorem PI.call {t : Nat} {F' : List Nat} {H' : Nat → Prop} (h : PI w wr N b4 b6 b8 p m sp V B FF H) (ht : t < m) (hsk : Sk w1 (B t) F' p H') (hc : Chg (FF t) wr w1) (hg : Grew wr (FF t) F') (hH : Hs H') :
    PI w w1 N b4 b6 b8 p m sp V B (upd3 FF t F') (upd3 H t H') := by
  have hold : ∀ b, b < N → b ∉ FF t := fun b hb hm => absurd (h.fresh t ht b hm) (by omega)
  have hnew : ∀ k, k ∈ F' → N ≤ k := fun k hk => by
    rcases hg k hk with h1 | h1
    · exact h.fresh t ht k h1
    · exact Nat.le_trans h.low h1
  refine { h with arr := h.arr.chg hc (hold _ h.l8), sk := ?_, fresh := ?_, apart := ?_, hs := ?_, chg := h.chg.trans hc (fun k hk => .inr (Nat.le_trans h.wN (h.fresh t ht k hk))), res := h.res.chg hc (hold _ h.l6), spz := h.spz.chg hc (hold _ h.l4), low := Nat.le_trans h.low hc.size }
  · intro i hi
    by_cases hit : i = t
    · subst hit; rw [upd3_same, upd3_same]; exact hsk
    · rw [upd3_ne FF F' hit, upd3_ne H H' hit]
      exact (h.sk i hi).chg hc (h.apart i t hi ht hit)
  · intro i hi k hk
    by_cases hit : i = t
    · subst hit; rw [upd3_same] at hk; exact hnew k hk
    · rw [upd3_ne FF F' hit] at hk; exact h.fresh i hi k hk
  · intro i j hi hj hij k hk
    by_cases hit : i = t
    · subst hit
      rw [upd3_same] at hk
      rw [upd3_ne FF F' (Ne.symm hij)]
      rcases hg k hk with h1 | h1
      · exact h.apart i j hi hj hij k h1
      · intro h2
        have := (h.sk j hj).lt k h2
        omega
    · rw [upd3_ne FF F' hit] at hk
      by_cases hjt : j = t
      · subst hjt
        rw [upd3_same]
        intro h2
        rcases hg k h2 with h1 | h1
        · exact h.apart i j hi hj hij k hk h1
        · have := (h.sk i hi).lt k hk
          omega
      · rw [upd3_ne FF F' hjt]; exact h.apart i j hi hj hij k hk
  · intro i hi
    by_cases hit : i = t
    · subst hit; rw [upd3_same]; exact hH
    · rw [upd3_ne H H' hit]; exact h.hs i hi

/-- A new sketch is put in a place. -/
theorem PI.put {t m' b : Nat} {F' : List Nat} {H' : Nat → Prop} (h : PI w wr N b4 b6 b8 p m sp V B FF H) (ht : t < 3) (hm : ∀ i, i < m' → i = t ∨ i < m) (hsk : Sk w1 b F' p H') (hc : Chg [] wr w1) (hg : ∀ k, k ∈ F' → wr.heap.size ≤ k) (hH : Hs H') :
    PI w (w1.setCell ⟨b8, t, none⟩ (.pointer (some ⟨b, 0, none⟩))) N b4 b6 b8 p m' sp (upd3 V t (.pointer (some ⟨b, 0, none⟩))) (upd3 B t b) (upd3 FF t F') (upd3 H t H') := by
  have hlow := h.low
  have hl8 := h.l8
  have hc2 : Chg [b8] w1 (w1.setCell ⟨b8, t, none⟩ (.pointer (some ⟨b, 0, none⟩))) := (Chg.refl _ _).setCell (.inl (by simp)) _
  have hm' : ∀ i, i < m' → i ≠ t → i < m := fun i hi hit => by
    rcases hm i hi with h1 | h1
    · exact absurd h1 hit
    · exact h1
  refine ⟨?_, ?_, ?_, ?_, ?_, ?_, ?_, (h.res.chg hc (by simp)).far h.n6 _, (h.spz.chg hc (by simp)).far h.n4 _, h.l4, h.l6, h.l8, h.w6, h.w8, h.n4, h.n6, Nat.le_trans (Nat.le_trans h.low hc.size) hc2.size, h.wN⟩
  · have h1 := (h.arr.chg hc (by simp)).set_ t (.pointer (some ⟨b, 0, none⟩))
    rwa [arr3_set V ht] at h1
  · intro i hi
    by_cases hit : i = t
    · subst hit; rw [upd3_same, upd3_same]
    · rw [upd3_ne V _ hit, upd3_ne B b hit]; exact h.ptr i (hm' i hi hit)
  · intro i hi
    by_cases hit : i = t
    · subst hit
      rw [upd3_same, upd3_same, upd3_same]
      refine hsk.chg hc2 (fun k hk hk2 => ?_)
      have := hg k hk
      simp at hk2
      omega
    · rw [upd3_ne B b hit, upd3_ne FF F' hit, upd3_ne H H' hit]
      refine ((h.sk i (hm' i hi hit)).chg hc (by simp)).chg hc2 (fun k hk hk2 => ?_)
      have := h.fresh i (hm' i hi hit) k hk
      simp at hk2
      omega
  · intro i hi k hk
    by_cases hit : i = t
    · subst hit; rw [upd3_same] at hk; exact Nat.le_trans h.low (hg k hk)
    · rw [upd3_ne FF F' hit] at hk; exact h.fresh i (hm' i hi hit) k hk
  · intro i j hi hj hij k hk
    by_cases hit : i = t
    · subst hit
      rw [upd3_same] at hk
      rw [upd3_ne FF F' (Ne.symm hij)]
      intro h2
      have := (h.sk j (hm' j hj (Ne.symm hij))).lt k h2
      have := hg k hk
      omega
    · rw [upd3_ne FF F' hit] at hk
      by_cases hjt : j = t
      · subst hjt
        rw [upd3_same]
        intro h2
        have := (h.sk i (hm' i hi hit)).lt k hk
        have := hg k h2
        omega
      · rw [upd3_ne FF F' hjt]; exact h.apart i j (hm' i hi hit) (hm' j hj hjt) hij k hk
  · intro i hi
    by_cases hit : i = t
    · subst hit; rw [upd3_same]; exact hH
    · rw [upd3_ne H H' hit]; exact h.hs i (hm' i hi hit)
  · exact (h.chg.trans hc (by simp)).setCell (.inr h.w8) _
end

/-- The memory while the registers are taken. -/
structure PJ (w wr : World) (N3 b6 b20 p j : Nat) (V : Nat → Value) (R : Nat → List Nat) (B : Nat → Nat) (FF : Nat → List Nat) (H : Nat → Nat → Prop) : Prop where
  out : Blk wr b20 25 (arr3 V)
  res : Blk wr b6 25 (arr3 fun _ => .slice none 0 0)
  own : ∀ i, i < j → wr.ownsRow 0 5 1 (V i) (2 ^ p) ((R i).map vU8)
  len : ∀ i, i < j → (R i).length = 2 ^ p
  reg : ∀ i, i < j → IsReg p (H i) (R i)
  fresh : ∀ i, i < j → ∀ g, (V i).ownBlock = some g → N3 ≤ g
  todo : ∀ i, j ≤ i → i < 3 → Sk wr (B i) (FF i) p (H i)
  small : ∀ i, i < 3 → ∀ k, k ∈ FF i → k < N3 ∧ k ≠ b20 ∧ k ≠ b6 ∧ w.heap.size ≤ k
  apart : ∀ i i', i < 3 → i' < 3 → i ≠ i' → ∀ k, k ∈ FF i → k ∉ FF i'
  hs : ∀ i, i < 3 → Hs (H i)
  chg : Chg [] w wr
  l20 : b20 < N3
  w20 : w.heap.size ≤ b20
  w6 : w.heap.size ≤ b6
  n6 : b6 ≠ b20
  low : N3 ≤ wr.heap.size

theorem PJ.next {w wr w1 : World} {N3 b6 b20 p j : Nat} {V : Nat → Value} {R : Nat → List Nat} {B : Nat → Nat} {FF : Nat → List Nat} {H : Nat → Nat → Prop} {v : Value} {R' : List Nat} (h : PJ w wr N3 b6 b20 p j V R B FF H) (hj : j < 3) (hreg : IsReg p (H j) R') (hlen : R'.length = 2 ^ p)
    (ho : w1.ownsRow 0 5 1 v (2 ^ p) (R'.map vU8)) (hc : Chg (FF j) wr w1) (hb : ∀ g, v.ownBlock = some g → wr.heap.size ≤ g) : PJ w (w1.setCell ⟨b20, j, none⟩ v) N3 b6 b20 p (j + 1) (upd3 V j v) (upd3 R j R') B FF H := by
  have h20 : b20 ∉ FF j := fun hm => (h.small j hj _ hm).2.1 rfl
  have h6 : b6 ∉ FF j := fun hm => (h.small j hj _ hm).2.2.1 rfl
  have hl20 := h.l20
  have hlow := h.low
  have hc2 : Chg [b20] w1 (w1.setCell ⟨b20, j, none⟩ v) := (Chg.refl _ _).setCell (.inl (by simp)) _
  refine ⟨?_, (h.res.chg hc h6).far h.n6 _, ?_, ?_, ?_, ?_, ?_, h.small, h.apart, h.hs, ?_, h.l20, h.w20, h.w6, h.n6, Nat.le_trans (Nat.le_trans h.low hc.size) hc2.size⟩
  · have h1 := (h.out.chg hc h20).set_ j v
    rwa [arr3_set V hj] at h1
  · intro i hi
    by_cases hij : i = j
    · subst hij
      rw [upd3_same, upd3_same]
      refine own_agree ho (fun g hg => Below.heap_setCell _ _ _ _ ?_)
      have := hb g hg
      show g ≠ b20
      omega
    · rw [upd3_ne V v hij, upd3_ne R R' hij]
      have hi' : i < j := by omega
      refine own_agree (h.own i hi') (fun g hg => ?_)
      have h1 := h.fresh i hi' g hg
      rw [Below.heap_setCell _ _ _ _ (by show g ≠ b20; omega)]
      exact hc.same (own_lt (h.own i hi') hg) (fun hm => by have := (h.small j hj g hm).1; omega)
  · intro i hi
    by_cases hij : i = j
    · subst hij; rw [upd3_same]; exact hlen
    · rw [upd3_ne R R' hij]; exact h.len i (by omega)
  · intro i hi
    by_cases hij : i = j
    · subst hij; rw [upd3_same]; exact hreg
    · rw [upd3_ne R R' hij]; exact h.reg i (by omega)
  · intro i hi g hg
    by_cases hij : i = j
    · subst hij; rw [upd3_same] at hg; exact Nat.le_trans h.low (hb g hg)
    · rw [upd3_ne V v hij] at hg; exact h.fresh i (by omega) g hg
  · intro i hi hi3
    refine ((h.todo i (by omega) hi3).chg hc (h.apart i j hi3 hj (by omega))).chg hc2 (fun k hk hk2 => ?_)
    have := (h.small i hi3 k hk).2.1
    simp at hk2
    exact this hk2
  · refine (h.chg.trans hc (fun k hk => .inr (h.small j hj k hk).2.2.2)).setCell (.inr h.w20) _
end Go.Proofs.YtgoliddhhichgaaGreatDoor
