/- The walks of the set of keys. -/
import Derived.Test.YtgoliddhhichgaaGreatDoorLaws
namespace Go.Proofs.YtgoliddhhichgaaGreatDoor
open Go.RowKit Pl

def ins (T : List Nat) (k : Nat) : List Nat := if k ∈ T then T else T ++ [k]
/-- The footprint has grown by new blocks alone. -/
def Grew (w : World) (F F' : List Nat) : Prop := ∀ k, k ∈ F' → k ∈ F ∨ w.heap.size ≤ k

theorem vU32_one (l : List Nat) : ∀ u ∈ l.map vU32, u.oneCell' = true := by
  intro u hu
  obtain ⟨k, _, rfl⟩ := List.mem_map.1 hu
  rfl

/-- What Add leaves. -/
def Added (w : World) (b : Nat) (F T : List Nat) (k : Nat) (e : Ending) (w' : World) : Prop :=
  ∃ F', e = .returned (.bool (!decide (k ∈ T))) ∧ SetAt w' b F' (ins T k) ∧ Chg F w w' ∧ Grew w F F'

set_option maxHeartbeats 400000 in
set_option maxRecDepth 100000 in
theorem add_new (w : World) (b : Nat) (F T : List Nat) (k : Nat) (h : SetAt w b F T) (hk : k < 4294967296) (hT : T.length < 100000000) (hn : k ∉ T) :
    Calls Tryz.prog 50 #[.pointer (some ⟨b, 0, none⟩), .int .u32 (k : Int)] w (Added w b F T k) := by
  obtain ⟨v, m, hb, ho, hm, hnd, hlt, rfl, hFn⟩ := h
  have c0 := hb.cell 0
  have c1 := hb.cell 1
  have hrun := hm.look law35 111 Tryz.underlying111 (Maps.keyOf_int_mk Tryz.underlying35 (wf_u32 k hk))
  rw [show decide (k ∈ T) = false by simpa using hn] at hrun
  obtain ⟨w1, hput, hm1, hg1⟩ := hm.put law35 111 Tryz.underlying111 (Maps.keyOf_int_mk Tryz.underlying35 (wf_u32 k hk)) (by omega)
  have hbm : b ≠ m := by rintro rfl; simp at hFn
  have hbv : v.ownBlock ≠ some b := own_ne ho hb (by decide)
  have hmv : v.ownBlock ≠ some m := by intro e; simp [e] at hFn
  have hb1 : Blk w1 b 113 #[v, .map (some m)] := hb.grown hg1 (by simpa using hbm)
  have d0 := hb1.cell 0
  have d1 := hb1.cell 1
  have ho1 : Own w1 35 v (T.map vU32) := own_agree ho (fun g hg => hg1.block g (own_lt ho hg) (by rintro e; injection e with e; subst e; exact hmv hg))
  simp at c0 c1 d0 d1
  have X := Lib.hid (And.intro hFn (And.intro hnd (And.intro hlt (And.intro hn (And.intro hg1 (And.intro hm1 (And.intro hb1 (And.intro hbm (And.intro hbv (And.intro hmv (And.intro ho hb)))))))))))
  clear hFn hnd hlt hn hg1 hm1 hm ho hb hb1 hbm hbv hmv
  go_enter Tryz.func50, Tryz.ntmps50
  go_wp2_with (first
    | (at_builtin; refine wpApp A85 _ rfl _ _ rfl v _ (T.map vU32) rfl (ho1.alloc _) ⟨w1.heap.size, 0, none⟩ 1 1 [vU32 k] rfl rfl (cell_one_new _ _ _) (vU32_one [k]) (by omega) (by omega) (by simp; omega) ?_; intro g2 cap2 w2 ho2 hg2 hat2 _; have d2 := (((X.out.2.2.2.2.2.2.1.alloc _).grown hg2 (fun e => X.out.2.2.2.2.2.2.2.2.1 e.symm))).cell 0; have f2 := (((X.out.2.2.2.2.2.2.1.alloc _).grown hg2 (fun e => X.out.2.2.2.2.2.2.2.2.1 e.symm))).frozen 0; simp at d2; clear d0 d1 c0 c1 hrun hput))
  go_ret
  obtain ⟨hFn, hnd, hlt, hn, hg1, hm1, hb1, hbm, hbv, hmv, ho, hb⟩ := X.out
  have hz1 : w.heap.size ≤ w1.heap.size := hg1.size
  have hgb : g2 ≠ b := by
    rintro rfl
    rcases hat2 with e | e
    · exact hbv e
    · have := hb1.lt; simp at e; omega
  have hgm : g2 ≠ m := by
    rintro rfl
    rcases hat2 with e | e
    · exact hmv e
    · have := hm1.lt; simp at e; omega
  have hb2 := ((hb1.alloc (.cells #[.int .u32 (k : Int)] 35)).grown hg2 (fun e => hbv e.symm))
  have hm2 : MapAt w2 .u32 35 m (T ++ [k]) := (hm1.agree (Below.heap_alloc _ _ _ hm1.lt)).kept hg2 (fun e => hmv e.symm)
  refine ⟨b :: m :: [g2], by simp [hn], ⟨_, m, hb2.set_ 0 _, ?_, ?_, ?_, ?_, rfl, ?_⟩, ?_, ?_⟩
  · have hi : ins T k = T ++ [k] := if_neg hn
    rw [hi, List.map_append]
    simp only [List.map_cons, List.map_nil]
    refine own_agree ?_ (fun g hg => Below.heap_setCell w2 _ _ g ?_)
    · simpa using ho2
    · simp [Value.ownBlock] at hg; subst hg; exact hgb
  · have hi : ins T k = T ++ [k] := if_neg hn
    rw [hi]
    exact hm2.agree (Below.heap_setCell w2 _ _ m (Ne.symm hbm))
  · have hi : ins T k = T ++ [k] := if_neg hn
    rw [hi, List.nodup_append]
    exact ⟨hnd, by simp, fun a ha c hc e => by simp at hc; subst hc; subst e; exact hn ha⟩
  · have hi : ins T k = T ++ [k] := if_neg hn
    rw [hi]
    intro j hj
    rcases List.mem_append.1 hj with hj | hj
    · exact hlt j hj
    · simp at hj; omega
  · simp [hbm, Ne.symm hgb, Ne.symm hgm]
  · refine Chg.setCell (((Chg.of_grown hg1 (fun g hg => ?_)).alloc _).grown hg2 (fun g hg => ?_)) (.inl (by simp)) _
    · injection hg with hg; subst hg; exact .inl (by simp)
    · exact .inl (by simp [hg])
  · intro j hj
    simp only [List.mem_cons, List.not_mem_nil, or_false] at hj
    rcases hj with rfl | rfl | rfl
    · exact .inl (by simp)
    · exact .inl (by simp)
    · rcases hat2 with e | e
      · exact .inl (by simp [e])
      · exact .inr (by simp at e; omega)

set_option maxHeartbeats 400000 in
set_option maxRecDepth 100000 in
theorem add_old (w : World) (b : Nat) (F T : List Nat) (k : Nat) (h : SetAt w b F T) (hk : k < 4294967296) (hn : k ∈ T) :
    Calls Tryz.prog 50 #[.pointer (some ⟨b, 0, none⟩), .int .u32 (k : Int)] w (Added w b F T k) := by
  have h0 := h
  obtain ⟨v, m, hb, ho, hm, hnd, hlt, hFF, hFn⟩ := h
  have c1 := hb.cell 1
  have hrun := hm.look law35 111 Tryz.underlying111 (Maps.keyOf_int_mk Tryz.underlying35 (wf_u32 k hk))
  rw [show decide (k ∈ T) = true by simpa using hn] at hrun
  simp at c1
  have X := Lib.hid (And.intro h0 hn)
  clear h0 hn hnd hlt hm ho hb hFF hFn
  go_enter Tryz.func50, Tryz.ntmps50
  go_wp2
  go_ret
  obtain ⟨h0, hn⟩ := X.out
  refine ⟨F, by simp [hn], ?_, Chg.refl _ _, fun j hj => .inl hj⟩
  rw [ins, if_pos hn]
  exact h0

/-- (*u32Set).Add. -/
theorem add_any (w : World) (b : Nat) (F T : List Nat) (k : Nat) (h : SetAt w b F T) (hk : k < 4294967296) (hT : T.length < 100000000) :
    Calls Tryz.prog 50 #[.pointer (some ⟨b, 0, none⟩), .int .u32 (k : Int)] w (Added w b F T k) := by
  by_cases hn : k ∈ T
  · exact add_old w b F T k h hk hn
  · exact add_new w b F T k h hk hT hn
end Go.Proofs.YtgoliddhhichgaaGreatDoor
