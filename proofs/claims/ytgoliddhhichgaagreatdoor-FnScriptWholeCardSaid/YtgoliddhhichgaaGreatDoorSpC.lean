/- The walk of spec.once. -/
import Derived.Test.YtgoliddhhichgaaGreatDoorSpA
import Derived.Test.YtgoliddhhichgaaGreatDoorSet
import Derived.Test.YtgoliddhhichgaaGreatDoorSetB
namespace Go.Proofs.YtgoliddhhichgaaGreatDoor
open Go.RowKit Pl

theorem vU64_one (l : List Nat) : ∀ u ∈ l.map vU64, u.oneCell' = true := by
  intro u hu
  obtain ⟨k, _, rfl⟩ := List.mem_map.1 hu
  rfl

/-- What once hands back. -/
def OnceOut (w : World) (L : List Nat) (e : Ending) (w' : World) : Prop :=
  ∃ (A : Option Addr) (n c : Nat) (T : List Nat), e = .returned (.slice A n c) ∧ n = T.length ∧ w'.ownsRow 0 38 1 (.slice A n c) n (T.map vU64) ∧ T.Nodup ∧ (∀ x, x ∈ T ↔ x ∈ L) ∧ Chg [] w w' ∧ (∀ g, (Value.slice A n c).ownBlock = some g → w.heap.size ≤ g)

/-- The state of once's loop. -/
structure OSt (w wr : World) (m : Nat) (v : Value) (n : Nat) (T pre : List Nat) : Prop where
  map : MapAt wr .u64 38 m T
  own : wr.ownsRow 0 38 1 v n (T.map vU64)
  len : n = T.length
  nodup : T.Nodup
  mem : ∀ x, x ∈ T ↔ x ∈ pre
  chg : Chg [] w wr
  new : ∀ g, v.ownBlock = some g → w.heap.size ≤ g
  mnew : w.heap.size ≤ m
  ne : v.ownBlock ≠ some m
  le : n ≤ pre.length

theorem take_succ {L : List Nat} {i x : Nat} (h : L[i]? = some x) : L.take (i + 1) = L.take i ++ [x] := by
  rw [List.take_add_one, h]; rfl

set_option maxHeartbeats 4000000 in
set_option maxRecDepth 100000 in
/-- spec.once. -/
theorem once_any (w : World) (g n c : Nat) (L : List Nat) (h : w.ownsRow 0 38 1 (.slice (some ⟨g, 0, none⟩) n c) n (L.map vU64)) (hn : n = L.length) (hn1 : n ≤ 1000000) (hL : ∀ x, x ∈ L → x < 18446744073709551616) :
    Calls Tryz.prog 18 #[.slice (some ⟨g, 0, none⟩) n c] w (OnceOut w L) := by
  have KL : Hid (∀ W, Chg [] w W → ∀ (i x : Nat), L[i]? = some x → W.cell? ⟨g, i, none⟩ = some (.int .u64 (x : Int))) := Lib.hid fun W hc i x hx => by
    have h1 := own_agree h (fun k hk => hc.same (own_lt h hk) (by simp))
    exact (own_cell (i := i) (u := vU64 x) h1 (by rw [List.getElem?_map, hx]; rfl)).1
  have X := Lib.hid (And.intro h (And.intro hn hL))
  clear h hn hL
  have hmm := @run_makeMap Tryz.prog
  go_enter Tryz.func18, Tryz.ntmps18
  go_wp2_with fail
  have A0 : Hid (OSt w (w.alloc (.map #[] 0)) w.heap.size (.slice none 0 0) 0 [] []) := Lib.hid
    ⟨MapAt.made w _ _, ⟨rfl, .inl ⟨rfl, rfl⟩⟩, rfl, List.nodup_nil, fun _ => Iff.rfl, (Chg.refl _ _).alloc _, (fun g hg => by cases hg), Nat.le_refl _, by simp [Value.ownBlock], Nat.le_refl _⟩
  generalize w.alloc (.map #[] 0) = w0 at A0 ⊢
  generalize w.heap.size = m at A0 ⊢
  clear hmm
  go_loopw [4, 10] (fun s4 s10 wr => ∃ (A : Option Addr) (i nn cc : Nat) (T : List Nat), s4 = .slice A nn cc ∧ s10 = .int .i64 (i : Int) ∧ i ≤ n ∧ Hid (OSt w wr m (.slice A nn cc) nn T (L.take i))) (fun _ s10 _ => n - (intOf s10).toNat)
  case atStart => exact ⟨none, 0, 0, 0, [], rfl, rfl, by omega, A0⟩
  case round =>
    obtain ⟨A, i, nn, cc, T, rfl, rfl, hi, hI⟩ := hrel
    by_cases hlt : i < n
    · have hiL : i < L.length := by rw [← X.out.2.1]; exact hlt
      obtain ⟨x, hx⟩ : ∃ x, L[i]? = some x := ⟨_, List.getElem?_eq_getElem hiL⟩
      have hx64 : x < 18446744073709551616 := X.out.2.2 x (List.mem_of_getElem? hx)
      have cx := KL.out wr hI.out.chg i x hx
      have hT := take_succ hx
      have hnn : nn ≤ 1000000 := by have := hI.out.le; rw [List.length_take] at this; omega
      have hTl : T.length ≤ 1000000 := by rw [← hI.out.len]; exact hnn
      have hrun := hI.out.map.look law38 88 Tryz.underlying88 (Maps.keyOf_int_mk Tryz.underlying38 (wf_u64 x hx64))
      have HT := Lib.hid (And.intro hT hx)
      by_cases hm : x ∈ T
      · rw [show decide (x ∈ T) = true by simpa using hm] at hrun
        have HM := Lib.hid hm
        clear hT hm hx hTl
        go_wp2_with fail
        go_roundw
        case rel =>
          refine ⟨A, i + 1, nn, cc, T, rfl, by go_num, by omega, ?_⟩
          have h := hI.out
          rw [HT.out.1]
          have hmem : ∀ y, y ∈ T ↔ y ∈ L.take i ++ [x] := fun y => by
            rw [h.mem y, List.mem_append, List.mem_singleton]
            constructor
            · exact .inl
            · rintro (hy | rfl)
              · exact hy
              · exact (h.mem y).1 HM.out
          exact Lib.hid ⟨h.map, h.own, h.len, h.nodup, hmem, h.chg, h.new, h.mnew, h.ne, by have := h.le; rw [List.length_append]; simp only [List.length_singleton]; omega⟩
        case measure => simp [intOf]; omega
      · rw [show decide (x ∈ T) = false by simpa using hm] at hrun
        obtain ⟨w1, hput, hm1, hg1⟩ := hI.out.map.put law38 88 Tryz.underlying88 (Maps.keyOf_int_mk Tryz.underlying38 (wf_u64 x hx64)) (by omega)
        have HM := Lib.hid (And.intro hm (And.intro hm1 hg1))
        have HO : Hid (∀ o, (w1.alloc o).ownsRow 0 38 1 (.slice A nn cc) nn (T.map vU64)) := Lib.hid fun o => own_agree hI.out.own (fun k hk => by
          have hlt := own_lt hI.out.own hk
          rw [Below.heap_alloc _ _ _ (Nat.lt_of_lt_of_le hlt hg1.size)]
          exact hg1.block k hlt (fun e => hI.out.ne (by rw [hk, e])))
        clear hT hm hx hTl hm1 hg1
        go_wp2_with (at_builtin; go_must (refine wpApp A29 _ rfl _ _ rfl (.slice A nn cc) nn (T.map vU64) rfl (HO.out _) ⟨w1.heap.size, 0, none⟩ 1 1 [vU64 x] rfl rfl (cell_one_new _ _ _) (vU64_one [x]) (by omega) (by omega) (by omega) ?_); intro g2 cap2 w2 ho2 hg2 hat2 _; have W := Lib.hid (And.intro ho2 (And.intro hg2 hat2)); clear ho2 hg2 hat2)
        obtain ⟨ho2, hg2, hat2⟩ := W.out
        obtain ⟨hm, hm1, hg1⟩ := HM.out
        have h := hI.out
        have hz1 := hg1.size
        have hmlt := h.map.lt
        have hwz := h.chg.size
        have hm2 : MapAt w2 .u64 38 m (T ++ [x]) := (hm1.agree (Below.heap_alloc _ _ _ hm1.lt)).kept hg2 (fun e => h.ne e.symm)
        have hmem : ∀ y, y ∈ T ++ [x] ↔ y ∈ L.take i ++ [x] := fun y => by rw [List.mem_append, List.mem_append, h.mem y]
        have hnd : (T ++ [x]).Nodup := by
          rw [List.nodup_append]
          exact ⟨h.nodup, by simp, fun a ha c hc e => by simp at hc; subst hc; subst e; exact hm ha⟩
        have hch : Chg [] w w2 := (((h.chg.grown hg1 (fun k hk => .inr (by injection hk with hk; rw [← hk]; exact h.mnew))).alloc _).grown hg2 (fun k hk => .inr (h.new k hk)))
        refine ⟨⟨some ⟨g2, 0, none⟩, i + 1, nn + 1, cap2, T ++ [x], rfl, by go_num, by omega, ?_⟩, by simp [intOf]; omega⟩
        rw [HT.out.1]
        refine Lib.hid ⟨hm2, by rw [List.map_append]; exact ho2, by rw [List.length_append, h.len]; rfl, hnd, hmem, hch, ?_, h.mnew, ?_, by have := h.le; rw [List.length_append]; simp only [List.length_singleton]; omega⟩
        · intro k hk
          simp only [Value.ownBlock, Option.some.injEq] at hk
          subst hk
          rcases hat2 with e | e
          · exact h.new _ e
          · simp at e; omega
        · intro e
          simp only [Value.ownBlock, Option.some.injEq] at e
          subst e
          rcases hat2 with e | e
          · exact h.ne e
          · simp at e; omega
    · go_wp2_with fail
      go_ret
      have h := hI.out
      have hiL : i = L.length := by rw [← X.out.2.1]; omega
      have hmem := h.mem
      rw [hiL, List.take_length] at hmem
      exact ⟨A, nn, cc, T, rfl, h.len, h.own, h.nodup, hmem, h.chg, h.new⟩
end Go.Proofs.YtgoliddhhichgaaGreatDoor
