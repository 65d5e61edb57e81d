/- append of a row that is owned onto a row that is owned, as one step of a region that draws. -/
import Derived.Test.YtgoliddhhichgaaGreatDoorSetB
import Derived.Test.YtgoliddhhichgaaGreatDoorLast
namespace Go.Proofs.YtgoliddhhichgaaGreatDoor
open Go.RowKit Pl

theorem rowOfBlk {w : World} {g : Nat} {e : TypeId} {xs : List Value} {n : Nat} (h : Blk w g e xs.toArray) (hn : n = xs.length) (hm : n ≤ maxLen) : w.ownsRow 0 e 1 (.slice (some ⟨g, 0, none⟩) n n) n xs := by
  subst hn
  exact ⟨by simp, .inr ⟨g, _, xs.toArray, rfl, Nat.zero_le _, h, Nat.le_refl _, hm, by simp, by simp⟩⟩
theorem infoParts {e : TypeId} {z : Value} {bytes : Nat} (h : (Tryz.prog.info? e).map (fun i => (i.zero, i.size, i.bytes)) = some (some z, 1, bytes)) : ∃ i, Tryz.prog.info? e = some i ∧ i.zero = some z ∧ i.size = 1 ∧ i.bytes = bytes := by
  cases hi : Tryz.prog.info? e with
  | none => rw [hi] at h; cases h
  | some i =>
    rw [hi] at h
    simp only [Option.map_some, Option.some.injEq, Prod.mk.injEq] at h
    exact ⟨i, rfl, h.1, h.2.1, h.2.2⟩

theorem run_app_any {t e : TypeId} {z : Value} {bytes : Nat} (A : AppT t e z bytes) (w : World) (ty : TypeId) (v : Value) (n : Nat) (xs : List Value) (hown : w.ownsRow 0 e 1 v n xs)
    (B : Option Addr) (m c : Nat) (news : List Value) (hsrc : w.ownsRow 0 e 1 (.slice B m c) m news) (h1 : ∀ u ∈ news, u.oneCell' = true) (hb : bytes ≤ 64) (hnm : n + m ≤ 1000000000000) :
    ∃ B' c' w', (Builtin.append_ #[t, t] ty #[v, .slice B m c]).run Tryz.prog w = .ok (.slice B' (n + m) c') w' ∧ w'.ownsRow 0 e 1 (.slice B' (n + m) c') (n + m) (xs ++ news) ∧ w.grownBy w' v.ownBlock ∧
      (∀ g, (Value.slice B' (n + m) c').ownBlock = some g → v.ownBlock = some g ∨ g = w.heap.size) := by
  obtain ⟨i, hi, hz0, hz1, hz2⟩ := infoParts A.info
  rcases own_form hsrc with ⟨h0, hm0, hn0⟩ | ⟨g, cap, h0, _⟩
  · subst hm0
    subst hn0
    simp only [Value.slice.injEq] at h0
    obtain ⟨rfl, _, rfl⟩ := h0
    obtain ⟨B', c', hv, _⟩ := own_slice hown
    subst hv
    refine ⟨B', c', w, run_append_owned_none (P := Tryz.prog) (w := w) 0 t ty e i 1 A.ht hi _ n xs hown, by simpa using hown, ⟨rfl, rfl, rfl, Nat.le_refl _, fun _ _ _ => rfl⟩, fun g hg => .inl hg⟩
  · simp only [Value.slice.injEq] at h0
    obtain ⟨rfl, _, rfl⟩ := h0
    have hl : news.length = m * 1 := by have := hsrc.1; simpa using this
    obtain ⟨v', w', hr, h2, h3, _, h5⟩ := run_append_own_at (P := Tryz.prog) w 0 t ty e i z 1 bytes A.ht hi hz0 hz1 hz2 A.zc (by omega) v n xs hown ⟨g, 0, none⟩ m c news hl (hsrc.cells rfl) h1 (by unfold maxLen; omega)
      (by calc (n + m) * bytes ≤ 1000000000000 * 64 := Nat.mul_le_mul hnm hb
            _ ≤ 140737488355328 := by omega) (Nat.zero_le _)
    obtain ⟨B', c', hv, _⟩ := own_slice h2
    subst hv
    refine ⟨B', c', w', hr, h2, h3, fun g' hg' => ?_⟩
    rcases h5 with h5 | h5
    · exact .inl (h5 ▸ hg')
    · rw [h5] at hg'
      injection hg' with hg'
      exact .inr hg'.symm

theorem step_app_any {t e : TypeId} {z : Value} {bytes : Nat} (A : AppT t e z bytes) {ops : Array Oper} {o : Oper} {a : Act} {w : World} {K : Act → World → Prop} {Q : Exit → Act → World → Prop} {E : Prop} (d : Nat) (hgd : o.guard = none) (hd : o.dst = some d) (s x : Operand)
    (ho : o.op = .call { callee := .builtin .append, args := #[s, x], argTypes := #[t, t] })
    (v : Value) (n : Nat) (xs : List Value) (hs : a.eval s = v) (hown : w.ownsRow 0 e 1 v n xs)
    (B : Option Addr) (m c : Nat) (news : List Value) (hx : a.eval x = .slice B m c) (hsrc : w.ownsRow 0 e 1 (.slice B m c) m news) (h1 : ∀ u ∈ news, u.oneCell' = true) (hb : bytes ≤ 64) (hnm : n + m ≤ 1000000000000)
    (h : ∀ B' c' w', w'.ownsRow 0 e 1 (.slice B' (n + m) c') (n + m) (xs ++ news) → w.grownBy w' v.ownBlock → (∀ g, (Value.slice B' (n + m) c').ownBlock = some g → v.ownBlock = some g ∨ g = w.heap.size) → K (a.put (some d) (.slice B' (n + m) c')) w') :
    if Region.wanted o (yielded ops a.tmps) = true then Oper.wp Tryz.prog o a w K Q else E := by
  have hw : Region.wanted o (yielded ops a.tmps) = true := by simp [Region.wanted, hgd]
  rw [if_pos hw]
  obtain ⟨B', c', w', hr, h2, h3, h4⟩ := run_app_any A w o.type v n xs hown B m c news hsrc h1 hb hnm
  unfold Oper.wp execOp
  simp only [ho, resolve, invoke, builtin, Sem.run_bind, Sem.run_pure, Result.andThen_ok, List.map_toArray, List.map_cons, List.map_nil, hs, hx, hr]
  have h5 := h B' c' w' h2 h3 h4
  rw [← hd] at h5
  exact h5
end Go.Proofs.YtgoliddhhichgaaGreatDoor
