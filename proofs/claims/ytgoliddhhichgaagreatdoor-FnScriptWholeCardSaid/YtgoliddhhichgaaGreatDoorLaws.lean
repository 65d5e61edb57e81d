/- Laws for the walk at this program's types: maps of bools, appends, makes. -/
import Derived.Test.YtgoliddhhichgaaGreatDoorMem
import Derived.WalkSpells
import Derived.WalkLawsBesides
import Derived.Laws.AppendOwnNone
import Derived.Laws.CopyOwn
import Derived.Deep.AppendLies
import Derived.RegionTactic
import Derived.Lib.Hide
namespace Go.Proofs.YtgoliddhhichgaaGreatDoor
open Go.RowKit Pl
open Go.Maps (Keyed)

theorem law35 : Keyed Tryz.prog 35 := Maps.int_keyed Tryz.underlying35
theorem law38 : Keyed Tryz.prog 38 := Maps.int_keyed Tryz.underlying38
theorem wf_u32 (k : Nat) (h : k < 4294967296) : (Lit.int .u32 (k : Int)).wf = true := by
  simp [Lit.wf, IntKind.min, IntKind.max, IntKind.bits, IntKind.signed]; omega
theorem wf_u64 (k : Nat) (h : k < 18446744073709551616) : (Lit.int .u64 (k : Int)).wf = true := by
  simp [Lit.wf, IntKind.min, IntKind.max, IntKind.bits, IntKind.signed]; omega

theorem plainElem_bool_inv {H : Type} {P : Program} {e : TypeId} (he : P.underlying e = some .bool) {v : Value} {z : DataW H × List MemPlace} (h : plainElem P e v = some z) : ∃ x, v = .bool x ∧ z = (.lit (.bool x), []) := by
  unfold plainElem at h
  rw [he] at h
  cases v <;> simp at h
  exact ⟨_, rfl, h.symm⟩

section
variable {w w' : World} {m k : Nat} {T : List Nat} {q : IntKind} {K : TypeId}
/-- A new map says false of all. -/
theorem MapAt.made (w : World) (q : IntKind) (K : TypeId) : MapAt (w.alloc (.map #[] 0)) q K w.heap.size [] := by
  refine ⟨.map [], World.ownsMap_made w _ _ _, fun k => ?_⟩
  simp [DataW.atKey]
theorem MapAt.look (h : MapAt w q K m T) (LK : Keyed Tryz.prog K) (t : TypeId) (ht : Tryz.prog.underlying t = some (.map K 4)) (hk : keyOf Tryz.prog K (.int q (k : Int)) = some (.int q (k : Int))) :
    (Instr.lookup t (.map (some m)) (.int q (k : Int)) false).run Tryz.prog w = .ok (.bool (decide (k ∈ T))) w := by
  obtain ⟨D, hown, hD⟩ := h
  obtain ⟨v, ps, hrun, hv⟩ := hown.lookup LK ht (Tryz.zeroValue4 w) (plainElem_bool Tryz.underlying4 false) hk
  rw [hD k] at hv
  obtain ⟨x, rfl, hx⟩ := plainElem_bool_inv Tryz.underlying4 hv
  simp only [Prod.mk.injEq, DataW.lit.injEq, Lit.bool.injEq] at hx
  rw [hrun, ← hx.1]
theorem MapAt.put (h : MapAt w q K m T) (LK : Keyed Tryz.prog K) (t : TypeId) (ht : Tryz.prog.underlying t = some (.map K 4)) (hk : keyOf Tryz.prog K (.int q (k : Int)) = some (.int q (k : Int)))
    (hn : T.length < 1000000000) : ∃ w', (Instr.mapUpdate t (.map (some m)) (.int q (k : Int)) (.bool true)).run Tryz.prog w = .ok () w' ∧ MapAt w' q K m (T ++ [k]) ∧ w.grownBy w' (some m) := by
  obtain ⟨D, hown, hD⟩ := h
  obtain ⟨w', hrun, h', hg⟩ := hown.update LK ht (by unfold maxLen; omega) hk (plainElem_bool (H := Unit) Tryz.underlying4 true)
  refine ⟨w', hrun, ⟨_, by simpa using h', fun j => ?_⟩, hg⟩
  by_cases hj : j = k
  · subst hj
    rw [Maps.atKey_put_same hown.isMap (LK.key hk)]
    simp
  · rw [Maps.atKey_put_other (by intro e; injection e with _ e; omega), hD j]
    simp [hj]
theorem MapAt.kept {row : Option Nat} (h : MapAt w q K m T) (hg : w.grownBy w' row) (hne : some m ≠ row) : MapAt w' q K m T := h.agree (hg.block m h.lt hne)
end

/-! ### append and make at one-cell elements -/
structure AppT (t e : TypeId) (z : Value) (bytes : Nat) : Prop where
  ht : Tryz.prog.underlying t = some (.slice e)
  info : (Tryz.prog.info? e).map (fun i => (i.zero, i.size, i.bytes)) = some (some z, 1, bytes)
  zc : z.cells.size = 1
theorem A22 : AppT 22 5 (.int .u8 0) 1 := ⟨Tryz.underlying22, by kernel_rfl, rfl⟩
theorem A89 : AppT 89 5 (.int .u8 0) 1 := ⟨Tryz.underlying89, by kernel_rfl, rfl⟩
theorem A85 : AppT 85 35 (.int .u32 0) 4 := ⟨Tryz.underlying85, by kernel_rfl, rfl⟩
theorem A29 : AppT 29 38 (.int .u64 0) 8 := ⟨Tryz.underlying29, by kernel_rfl, rfl⟩


/-- append onto a row of the program's own, one cell an element; something is appended: the value written out. -/
theorem wpApp {t e : TypeId} {z : Value} {bytes : Nat} (A : AppT t e z bytes) (w : World) {ops : Array Oper} {rest : List Oper} {o : Oper} {a : Act} {Q : Exit → Act → World → Prop} (hgd : o.guard = none) (s x : Operand)
    (ho : o.op = .call { callee := .builtin .append, args := #[s, x], argTypes := #[t, t] })
    (v : Value) (n : Nat) (xs : List Value) (hs : a.eval s = v) (hown : w.ownsRow 0 e 1 v n xs)
    (ad : Addr) (m c : Nat) (news : List Value) (hx : a.eval x = .slice (some ad) m c) (hl : news.length = m) (hnews : ∀ j u, news[j]? = some u → w.cell? (ad.add j) = some u) (h1 : ∀ u ∈ news, u.oneCell' = true)
    (hb : bytes ≤ 64) (hm : 0 < m) (hnm : n + m ≤ 1000000000000)
    (h : ∀ g cap w', w'.ownsRow 0 e 1 (.slice (some ⟨g, 0, none⟩) (n + m) cap) (n + m) (xs ++ news) → w.grownBy w' v.ownBlock → (v.ownBlock = some g ∨ g = w.heap.size) → n + m ≤ cap → wpList Tryz.prog ops Q rest (a.put o.dst (.slice (some ⟨g, 0, none⟩) (n + m) cap)) w') :
    wpList Tryz.prog ops Q (o :: rest) a w := by
  obtain ⟨i, hi, hz0, hz1, hz2⟩ := info_parts A.info
  refine wpList_append_own_at w hgd s x t ho 0 e i z 1 bytes A.ht hi hz0 hz1 hz2 A.zc (by omega) v n xs hs hown ad m c news hx (by rw [hl]; omega) hnews h1 (by unfold maxLen; omega) ?_ (Nat.zero_le _) ?_
  · calc (n + m) * bytes ≤ 1000000000000 * 64 := Nat.mul_le_mul hnm hb
      _ ≤ 140737488355328 := by omega
  · intro v' w' h1 h2 _ h4
    rcases own_form h1 with ⟨_, h0, _⟩ | ⟨g, cap, rfl, hcap, _, _, _, _⟩
    · omega
    · refine h g cap w' h1 h2 ?_ hcap
      rcases h4 with h4 | h4
      · exact .inl h4.symm
      · simp only [Value.ownBlock, Option.some.injEq] at h4
        exact .inr h4
/-- .. of nothing: a nil source. -/
theorem wpAppNil {t e : TypeId} {z : Value} {bytes : Nat} (A : AppT t e z bytes) (w : World) {ops : Array Oper} {rest : List Oper} {o : Oper} {a : Act} {Q : Exit → Act → World → Prop} (hgd : o.guard = none) (s x : Operand)
    (ho : o.op = .call { callee := .builtin .append, args := #[s, x], argTypes := #[t, t] })
    (v : Value) (n : Nat) (xs : List Value) (hs : a.eval s = v) (hown : w.ownsRow 0 e 1 v n xs) (hx : a.eval x = .slice none 0 0)
    (h : wpList Tryz.prog ops Q rest (a.put o.dst v) w) : wpList Tryz.prog ops Q (o :: rest) a w := by
  obtain ⟨i, hi, hz0, hz1, hz2⟩ := info_parts A.info
  exact wpList_append_own_none hgd s x t ho 0 e i 1 A.ht hi v n xs hs hown hx h
end Go.Proofs.YtgoliddhhichgaaGreatDoor
