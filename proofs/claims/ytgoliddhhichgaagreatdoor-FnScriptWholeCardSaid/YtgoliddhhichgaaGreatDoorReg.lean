/- Plain: registers and what a sketch says of a set of hashes. No walk. -/
import Derived.Test.YtgoliddhhichgaaGreatDoorSkA
import Derived.Test.YtgoliddhhichgaaGreatDoorSkC
namespace Go.Proofs.YtgoliddhhichgaaGreatDoor
open Go.RowKit Pl

/-- Register i. -/
abbrev reg (R : List Nat) (i : Nat) : Nat := R[i]?.getD 0
theorem upd_get (R : List Nat) (i v j : Nat) : reg (upd R i v) j = if j = i ∧ i < R.length then max v (reg R i) else reg R j := by
  unfold upd reg
  rw [List.getElem?_set]
  by_cases h : j = i
  · subst h
    by_cases hl : j < R.length
    · simp [hl]
    · simp [hl]
  · rw [if_neg (fun e => h e.symm), if_neg (fun e => h e.1)]
theorem reg_zero (n i : Nat) : reg (List.replicate n 0) i = 0 := by
  unfold reg
  rw [List.getElem?_replicate]
  split <;> rfl

/-- R is just what the hashes of H leave. -/
def IsReg (p : Nat) (H : Nat → Prop) (R : List Nat) : Prop :=
  ∀ i, i < 2 ^ p → (∀ h, H h → pos p h = i → val p h ≤ reg R i) ∧ (reg R i = 0 ∨ ∃ h, H h ∧ pos p h = i ∧ val p h = reg R i)
theorem IsReg.unique {p : Nat} {H : Nat → Prop} {R R' : List Nat} (h : IsReg p H R) (h' : IsReg p H R') (hl : R.length = 2 ^ p) (hl' : R'.length = 2 ^ p) : R = R' := by
  apply List.ext_getElem (by omega)
  intro i h1 h2
  have hi : i < 2 ^ p := by omega
  obtain ⟨a1, a2⟩ := h i hi
  obtain ⟨b1, b2⟩ := h' i hi
  have e1 : reg R i = R[i] := by simp [reg, h1]
  have e2 : reg R' i = R'[i] := by simp [reg, h2]
  rw [e1] at a1 a2
  rw [e2] at b1 b2
  have le1 : R[i] ≤ R'[i] := by
    rcases a2 with h0 | ⟨x, hx, hp, hv⟩
    · omega
    · have := b1 x hx hp; omega
  have le2 : R'[i] ≤ R[i] := by
    rcases b2 with h0 | ⟨x, hx, hp, hv⟩
    · omega
    · have := a1 x hx hp; omega
  omega
theorem IsReg.congr {p : Nat} {H H' : Nat → Prop} {R : List Nat} (h : IsReg p H R) (he : ∀ x, H x ↔ H' x) : IsReg p H' R := fun i hi =>
  ⟨fun x hx hp => (h i hi).1 x ((he x).2 hx) hp, (h i hi).2.imp id (fun ⟨x, hx, h2⟩ => ⟨x, (he x).1 hx, h2⟩)⟩
theorem IsReg.zero (p : Nat) : IsReg p (fun _ => False) (List.replicate (2 ^ p) 0) := fun _ _ => ⟨fun _ h => h.elim, .inl (reg_zero _ _)⟩
/-- One hash more. -/
theorem IsReg.add {p : Nat} {H : Nat → Prop} {R : List Nat} (h : IsReg p H R) (hl : R.length = 2 ^ p) (x : Nat) (hx : pos p x < 2 ^ p) : IsReg p (fun y => H y ∨ y = x) (upd R (pos p x) (val p x)) := by
  intro i hi
  rw [upd_get]
  by_cases he : i = pos p x
  · rw [if_pos ⟨he, by omega⟩, ← he]
    obtain ⟨a1, a2⟩ := h i hi
    refine ⟨fun y hy hp => ?_, ?_⟩
    · rcases hy with hy | rfl
      · have := a1 y hy hp; omega
      · omega
    · rcases Nat.le_total (val p x) (reg R i) with hle | hle
      · rw [Nat.max_eq_right hle]
        exact a2.imp id (fun ⟨y, hy, h2⟩ => ⟨y, .inl hy, h2⟩)
      · rw [Nat.max_eq_left hle]
        exact .inr ⟨x, .inr rfl, he.symm, rfl⟩
  · rw [if_neg (fun e => he e.1)]
    obtain ⟨a1, a2⟩ := h i hi
    refine ⟨fun y hy hp => ?_, a2.imp id (fun ⟨y, hy, h2⟩ => ⟨y, .inl hy, h2⟩)⟩
    rcases hy with hy | rfl
    · exact a1 y hy hp
    · exact absurd hp.symm he

/-- Register by register the greater. -/
theorem IsReg.max {p : Nat} {H H' : Nat → Prop} {R R' Q : List Nat} (h : IsReg p H R) (h' : IsReg p H' R') (hq : ∀ i, i < 2 ^ p → reg Q i = Max.max (reg R i) (reg R' i)) : IsReg p (fun y => H y ∨ H' y) Q := by
  intro i hi
  rw [hq i hi]
  obtain ⟨a1, a2⟩ := h i hi
  obtain ⟨b1, b2⟩ := h' i hi
  refine ⟨fun y hy hp => ?_, ?_⟩
  · rcases hy with hy | hy
    · have := a1 y hy hp; omega
    · have := b1 y hy hp; omega
  · rcases Nat.le_total (reg R i) (reg R' i) with hle | hle
    · rw [Nat.max_eq_right hle]
      exact b2.imp id (fun ⟨y, hy, h2⟩ => ⟨y, .inr hy, h2⟩)
    · rw [Nat.max_eq_left hle]
      exact a2.imp id (fun ⟨y, hy, h2⟩ => ⟨y, .inl hy, h2⟩)

/-- Keys added one by one to registers. -/
def addK (p : Nat) (R : List Nat) (L : List Nat) : List Nat := L.foldl (fun R k => upd R (decI p k) (decR p k)) R
theorem addK_len (p : Nat) (L : List Nat) : ∀ R : List Nat, (addK p R L).length = R.length := by
  unfold addK
  induction L with
  | nil => intro R; rfl
  | cons k L ih => intro R; rw [List.foldl_cons, ih, upd_len]
theorem addK_reg (p : Nat) (L : List Nat) : ∀ (H : Nat → Prop) (R : List Nat), R.length = 2 ^ p → IsReg p H R → (∀ k, k ∈ L → ∃ h, decI p k = pos p h ∧ decR p k = val p h ∧ pos p h < 2 ^ p) →
    ∀ H' : Nat → Prop, (∀ h, H h → H' h) → (∀ k, k ∈ L → ∃ h, H' h ∧ decI p k = pos p h ∧ decR p k = val p h ∧ pos p h < 2 ^ p) → (∀ h, H' h → H h ∨ ∃ k, k ∈ L ∧ decI p k = pos p h ∧ decR p k = val p h) → IsReg p H' (addK p R L) := by
  induction L with
  | nil =>
    intro H R hl hR _ H' h1 _ h3
    refine hR.congr (fun x => ⟨h1 x, fun hx => ?_⟩)
    rcases h3 x hx with h | ⟨k, hk, _⟩
    · exact h
    · simp at hk
  | cons k L ih =>
    intro H R hl hR hk H' h1 h2 h3
    obtain ⟨x, hx, e1, e2, hp⟩ := h2 k (by simp)
    have hadd := hR.add hl x hp
    rw [← e1, ← e2] at hadd
    have hlen : (upd R (decI p k) (decR p k)).length = 2 ^ p := by rw [upd_len, hl]
    have hset : IsReg p (fun y => H y ∨ (H' y ∧ decI p k = pos p y ∧ decR p k = val p y)) (upd R (decI p k) (decR p k)) := by
      intro i hi
      obtain ⟨a1, a2⟩ := hadd i hi
      refine ⟨fun y hy hpy => ?_, a2.imp id (fun ⟨y, hy, hpy, hv⟩ => ?_)⟩
      · rcases hy with hy | ⟨_, f1, f2⟩
        · exact a1 y (.inl hy) hpy
        · have := a1 x (.inr rfl) (by omega)
          omega
      · rcases hy with hy | rfl
        · exact ⟨y, .inl hy, hpy, hv⟩
        · exact ⟨y, .inr ⟨hx, e1, e2⟩, hpy, hv⟩
    exact ih _ _ hlen hset (fun k' hk' => hk k' (by simp [hk'])) H' (fun h hh => by rcases hh with hh | hh; exact h1 h hh; exact hh.1) (fun k' hk' => h2 k' (by simp [hk'])) (fun h hh => by
      rcases h3 h hh with h4 | ⟨k', hk', f1, f2⟩
      · exact .inl (.inl h4)
      · rcases List.mem_cons.1 hk' with rfl | hk'
        · exact .inl (.inr ⟨hh, f1, f2⟩)
        · exact .inr ⟨k', hk', f1, f2⟩)

/-- The keys of T and L are just those of the hashes of H. -/
def KeysOf (p : Nat) (H : Nat → Prop) (P : Nat → Prop) : Prop := ∀ k, P k ↔ ∃ h, H h ∧ enc p h = k
/-- Hashes. -/
def Hs (H : Nat → Prop) : Prop := ∀ h, H h → h < 18446744073709551616
/-- Keys of a second set of hashes added to registers. -/
theorem IsReg.keys {p : Nat} {H H2 : Nat → Prop} {R L : List Nat} (h4 : 4 ≤ p) (h10 : p ≤ 10) (hR : IsReg p H R) (hl : R.length = 2 ^ p) (hH : Hs H2) (hk : KeysOf p H2 (· ∈ L)) : IsReg p (fun y => H y ∨ H2 y) (addK p R L) := by
  have key : ∀ k, k ∈ L → ∃ h, H2 h ∧ decI p k = pos p h ∧ decR p k = val p h ∧ pos p h < 2 ^ p := fun k hkL => by
    obtain ⟨h, hh, he⟩ := (hk k).1 hkL
    have := dec_enc p h h4 h10 (hH h hh)
    rw [he] at this
    exact ⟨h, hh, this.1, this.2, pos_lt p h h10 (hH h hh)⟩
  refine addK_reg p L H R hl hR (fun k hkL => by obtain ⟨h, _, h2⟩ := key k hkL; exact ⟨h, h2⟩) _ (fun h hh => .inl hh) (fun k hkL => by obtain ⟨h, hh, h2⟩ := key k hkL; exact ⟨h, .inr hh, h2⟩) (fun h hh => ?_)
  rcases hh with hh | hh
  · exact .inl hh
  · refine .inr ⟨enc p h, (hk _).2 ⟨h, hh, rfl⟩, ?_⟩
    exact dec_enc p h h4 h10 (hH h hh)

/-- What a sketch says. -/
def Says (p : Nat) (H : Nat → Prop) : Rep → Prop
  | .sparse T L => SInc L ∧ T.length * 100 ≤ 2 ^ p ∧ (bytesOf L).length ≤ 2 ^ p ∧ KeysOf p H (fun k => k ∈ T ∨ k ∈ L)
  | .dense R => IsReg p H R
/-- A sketch at block b that has taken just the hashes of H. -/
def Sk (w : World) (b : Nat) (F : List Nat) (p : Nat) (H : Nat → Prop) : Prop := ∃ rep, SkAt w b F p rep ∧ Says p H rep
theorem KeysOf.congr {p : Nat} {H H' P P' : Nat → Prop} (h : KeysOf p H P) (hp : ∀ k, P' k ↔ P k) (hh : ∀ x, H x ↔ H' x) : KeysOf p H' P' := fun k => by
  rw [hp k, h k]
  exact ⟨fun ⟨x, hx, e⟩ => ⟨x, (hh x).1 hx, e⟩, fun ⟨x, hx, e⟩ => ⟨x, (hh x).2 hx, e⟩⟩
theorem Says.congr {p : Nat} {H H' : Nat → Prop} {rep : Rep} (h : Says p H rep) (hh : ∀ x, H x ↔ H' x) : Says p H' rep := by
  cases rep with
  | sparse T L => exact ⟨h.1, h.2.1, h.2.2.1, h.2.2.2.congr (fun _ => Iff.rfl) hh⟩
  | dense R => exact IsReg.congr h hh
end Go.Proofs.YtgoliddhhichgaaGreatDoor
