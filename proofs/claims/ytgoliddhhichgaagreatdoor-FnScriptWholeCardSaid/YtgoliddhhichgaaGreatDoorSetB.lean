/- The walks of the set of keys: making, counting, clearing, going over it. -/
import Derived.Test.YtgoliddhhichgaaGreatDoorSet
import Derived.Shelf.Abstract
namespace Go.Proofs.YtgoliddhhichgaaGreatDoor
open Go.RowKit Pl

theorem own_slice {w : World} {e : TypeId} {v : Value} {n : Nat} {xs : List Value} (h : w.ownsRow 0 e 1 v n xs) : ∃ A c, v = .slice A n c ∧ n ≤ c := by
  rcases own_form h with ⟨rfl, rfl, _⟩ | ⟨g, cap, rfl, hc, _⟩
  · exact ⟨_, _, rfl, Nat.le_refl _⟩
  · exact ⟨_, _, rfl, hc⟩

theorem ownBlock_len (A : Option Addr) (n n' c c' : Nat) : (Value.slice A n c).ownBlock = (Value.slice A n' c').ownBlock := by cases A <;> rfl

/-- A new set. -/
def NewSet (w : World) (e : Ending) (w' : World) : Prop :=
  ∃ b F, e = .returned (.pointer (some ⟨b, 0, none⟩)) ∧ SetAt w' b F [] ∧ Chg [] w w' ∧ Grew w [] F

set_option maxHeartbeats 400000 in
set_option maxRecDepth 100000 in
theorem newU32Set_any (n : Int) (w : World) : Calls Tryz.prog 48 #[.int .i64 n] w (NewSet w) := by
  have hmm := @run_makeMap Tryz.prog
  go_enter Tryz.func48, Tryz.ntmps48
  go_wp2
  go_ret
  refine ⟨w.heap.size + 1, [w.heap.size + 1, w.heap.size], by simp, ⟨.slice none 0 0, w.heap.size, ?_, World.ownsRow_nil _ _ _ _, ?_, by simp, by simp, rfl, by simp⟩, ((Chg.refl _ _).alloc _).alloc _, ?_⟩
  · have := Blk.new (w.alloc (.map #[] 0)) 113 #[.slice none 0 0, .map (some w.heap.size)]
    simpa using this
  · exact (MapAt.made w .u32 35).agree (Below.heap_alloc _ _ _ (by simp))
  · intro k hk
    simp at hk
    exact .inr (by omega)

/-- A new set, as a value of type set. -/
def NewSetV (w : World) (e : Ending) (w' : World) : Prop :=
  ∃ b F, e = .returned (.agg #[.pointer (some ⟨b, 0, none⟩)]) ∧ SetAt w' b F [] ∧ Chg [] w w' ∧ Grew w [] F

set_option maxHeartbeats 400000 in
set_option maxRecDepth 100000 in
theorem makeSet_any (n : Int) (w : World) : Calls Tryz.prog 24 #[.int .i64 n] w (NewSetV w) := by
  go_enter Tryz.func24, Tryz.ntmps24
  go_wp2_with fail
  refine (newU32Set_any _ _).mono ?_
  rintro e w1 ⟨b, F, rfl, hs, hc, hg⟩
  have hb : Blk w1 w.heap.size 56 #[.pointer none] := (Blk.new w 56 #[.pointer none]).chg hc (by simp)
  have c0 := hb.cell 0
  have f0 := hb.frozen 0
  simp at c0
  have X := Lib.hid (And.intro hs (And.intro hc (And.intro hg hb)))
  clear hs hc hg hb
  go_wp2_with fail
  obtain ⟨hs, hc, hg, hb⟩ := X.out
  have hb2 := hb.set_ 0 (.pointer (some ⟨b, 0, none⟩))
  have d0 := hb2.cell 0
  simp at d0
  refine bodyPost_ret (v := .agg #[.pointer (some ⟨b, 0, none⟩)]) (by simp [results, Tryz.results24, go_sem, d0]) rfl ?_
  have hF : ∀ k, k ∈ F → w.heap.size + 1 ≤ k := fun k hk => by
    rcases hg k hk with h | h
    · simp at h
    · simpa using h
  refine ⟨b, F, rfl, hs.agree (fun k hk => Below.heap_setCell _ _ _ k ?_), ?_, ?_⟩
  · have := hF k hk
    show k ≠ w.heap.size
    omega
  · exact (((Chg.refl [] w).alloc _).trans hc (by simp)).setCell (.inr (Nat.le_refl _)) _
  · intro k hk
    have := hF k hk
    exact .inr (by omega)

set_option maxHeartbeats 400000 in
set_option maxRecDepth 100000 in
theorem len64_any (w : World) (b : Nat) (F T : List Nat) (h : SetAt w b F T) :
    Calls Tryz.prog 64 #[.pointer (some ⟨b, 0, none⟩)] w fun e w' => e = .returned (.int .i64 (T.length : Int)) ∧ w = w' := by
  obtain ⟨v, m, hb, ho, hm, hnd, hlt, rfl, hFn⟩ := h
  obtain ⟨A, c, rfl, hc⟩ := own_slice ho
  have c0 := hb.cell 0
  simp at c0
  clear hb ho hm hnd hlt hFn hc
  go_enter Tryz.func64, Tryz.ntmps64
  go_wp2
  go_ret
  exact ⟨rfl, rfl⟩
set_option maxHeartbeats 400000 in
set_option maxRecDepth 100000 in
theorem len64_nil (w : World) : Calls Tryz.prog 64 #[.pointer none] w fun e w' => e = .returned (.int .i64 0) ∧ w = w' := by
  go_enter Tryz.func64, Tryz.ntmps64
  go_wp2
  go_ret
  exact ⟨rfl, rfl⟩

theorem SetAt.alloc {w : World} {b : Nat} {F T : List Nat} (h : SetAt w b F T) (o : Obj) : SetAt (w.alloc o) b F T := h.agree fun k hk => Below.heap_alloc w o k (h.lt k hk)

set_option maxHeartbeats 400000 in
set_option maxRecDepth 100000 in
theorem len53_any (w : World) (b : Nat) (F T : List Nat) (h : SetAt w b F T) :
    Calls Tryz.prog 53 #[.agg #[.pointer (some ⟨b, 0, none⟩)]] w fun e w' => e = .returned (.int .i64 (T.length : Int)) ∧ w.alloc (.cells #[.pointer (some ⟨b, 0, none⟩)] 56) = w' := by
  have H := Lib.hid h
  clear h
  go_enter Tryz.func53, Tryz.ntmps53
  go_wp2_with fail
  refine (len64_any _ b F T (H.out.alloc _)).mono ?_
  rintro e w' ⟨rfl, rfl⟩
  go_wp2
  go_ret
  exact ⟨rfl, rfl⟩
set_option maxHeartbeats 400000 in
set_option maxRecDepth 100000 in
theorem len53_nil (w : World) :
    Calls Tryz.prog 53 #[.agg #[.pointer none]] w fun e w' => e = .returned (.int .i64 0) ∧ w.alloc (.cells #[.pointer none] 56) = w' := by
  go_enter Tryz.func53, Tryz.ntmps53
  go_wp2_with fail
  refine (len64_nil _).mono ?_
  rintro e w' ⟨rfl, rfl⟩
  go_wp2
  go_ret
  exact ⟨rfl, rfl⟩

theorem Chg.of_alloc {F : List Nat} {w w' : World} {o : Obj} (h : Chg F (w.alloc o) w') : Chg F w w' := ((Chg.refl F w).alloc o).trans h (fun _ hk => .inl hk)
theorem Grew.of_alloc {F F' : List Nat} {w : World} {o : Obj} (h : Grew (w.alloc o) F F') : Grew w F F' := fun _ hk => (h _ hk).imp id (fun h => by simp at h; omega)

set_option maxHeartbeats 400000 in
set_option maxRecDepth 100000 in
/-- (set).add. -/
theorem sadd_any (w : World) (b : Nat) (F T : List Nat) (k : Nat) (h : SetAt w b F T) (hk : k < 4294967296) (hT : T.length < 100000000) :
    Calls Tryz.prog 28 #[.agg #[.pointer (some ⟨b, 0, none⟩)], .int .u32 (k : Int)] w (Added w b F T k) := by
  have H := Lib.hid h
  clear h
  go_enter Tryz.func28, Tryz.ntmps28
  go_wp2_with fail
  refine (add_any _ b F T k (H.out.alloc _) hk hT).mono ?_
  rintro e w1 ⟨F', rfl, hs, hc, hg⟩
  have X := Lib.hid (And.intro hs (And.intro hc hg))
  clear hs hc hg
  go_wp2_with fail
  go_ret
  obtain ⟨hs, hc, hg⟩ := X.out
  exact ⟨F', rfl, hs, hc.of_alloc, hg.of_alloc⟩

/-- What Clear leaves. -/
def Cleared (w : World) (b : Nat) (F : List Nat) (e : Ending) (w' : World) : Prop :=
  ∃ F', e = .returned (.tuple #[]) ∧ SetAt w' b F' [] ∧ Chg F w w' ∧ Grew w F F'

set_option maxHeartbeats 400000 in
set_option maxRecDepth 100000 in
theorem clear88_any (w : World) (b : Nat) (F T : List Nat) (h : SetAt w b F T) :
    Calls Tryz.prog 88 #[.pointer (some ⟨b, 0, none⟩)] w (Cleared w b F) := by
  obtain ⟨v, m, hb, ho, hm, hnd, hlt, rfl, hFn⟩ := h
  obtain ⟨A, c, rfl, hc⟩ := own_slice ho
  have c0 := hb.cell 0
  have f0 := hb.frozen 0
  have c1 := hb.cell 1
  have f1 := hb.frozen 1
  simp at c0 c1
  have hmm := @run_makeMap Tryz.prog
  have hlt := hb.lt
  have X := Lib.hid (And.intro hb (And.intro ho (And.intro hm (And.intro hFn hc))))
  clear hb ho hm hnd hFn hc
  go_enter Tryz.func88, Tryz.ntmps88
  go_wp2
  go_end0
  obtain ⟨hb, ho, hm, hFn, hc⟩ := X.out
  have hbv := own_ne ho hb (by decide)
  have hb2 := (((hb.set_ 0 (.slice A 0 c)).set_ 1 (.map (some w.heap.size))).alloc (.map #[] 0))
  refine ⟨b :: w.heap.size :: (Value.slice A 0 c).ownBlock.toList, rfl, ⟨.slice A 0 c, w.heap.size, by simpa using hb2, ?_, ?_, by simp, by simp, rfl, ?_⟩, ?_, ?_⟩
  · show World.ownsRow _ 0 35 1 (.slice A 0 c) 0 []
    have ho0 : w.ownsRow 0 35 1 (.slice A 0 c) 0 [] := by
      refine ⟨by simp, ?_⟩
      rcases ho.2 with ⟨e, hn⟩ | ⟨g, cap, cur, e, h1, h2, h3, h4, h5, h6⟩
      · injection e with e1 e2 e3
        subst e1; subst e3
        exact .inl ⟨rfl, rfl⟩
      · injection e with e1 e2 e3
        subst e1; subst e3
        exact .inr ⟨g, c, cur, rfl, h1, h2, Nat.zero_le _, h4, h5, by simp⟩
    refine own_agree ho0 (fun g hg => ?_)
    have hgb : g ≠ b := by rintro rfl; exact hbv ((ownBlock_len _ _ _ _ _).trans hg)
    have hgl := own_lt ho0 hg
    rw [Below.heap_alloc _ _ _ (by simpa [World.setCell] using hgl), Below.heap_setCell _ _ _ _ hgb, Below.heap_setCell _ _ _ _ hgb]
  · have := MapAt.made ((w.setCell ⟨b, 0, none⟩ (.slice A 0 c)).setCell ⟨b, 1, none⟩ (.map (some w.heap.size))) .u32 35
    simpa [World.setCell] using this
  · have hv : ∀ g, (Value.slice A 0 c).ownBlock = some g → g < w.heap.size := fun g hg => own_lt ho ((ownBlock_len _ _ _ _ _).trans hg)
    have hv2 : (Value.slice A 0 c).ownBlock ≠ some b := by
      intro e
      exact hbv ((ownBlock_len _ _ _ _ _).trans e)
    simp only [List.nodup_cons, List.mem_cons, Option.mem_toList]
    refine ⟨?_, ?_, by cases (Value.slice A 0 c).ownBlock <;> simp⟩
    · rintro (h | h)
      · omega
      · exact hv2 h
    · intro h
      have := hv _ h
      omega
  · exact (((Chg.refl _ w).setCell (.inl (by simp)) _).setCell (.inl (by simp)) _).alloc _
  · intro k hk
    simp only [List.mem_cons, Option.mem_toList] at hk
    rcases hk with rfl | rfl | hk
    · exact .inl (by simp)
    · exact .inr (Nat.le_refl _)
    · refine .inl ?_
      simp only [List.mem_cons, Option.mem_toList]
      exact .inr (.inr ((ownBlock_len _ _ _ _ _).trans hk))

set_option maxHeartbeats 1000000 in
set_option maxRecDepth 100000 in
/-- (*u32Set).ForEach: the closure's contract carries an invariant over the keys that have been. -/
theorem forEach_any (w : World) (b : Nat) (F T : List Nat) (h : SetAt w b F T) (g : FuncId) (cap : Array Value) (eg : ∀ args w, (callFunc g args).run Tryz.prog w = .ok (.enter g args) w)
    (Inv : List Nat → World → Prop) (h0 : Inv [] w) (hkeep : ∀ l W, Inv l W → ∀ k, k ∈ F → W.heap[k]? = w.heap[k]?) (hT : T.length < 100000000)
    (hstep : ∀ l k W, k < 4294967296 → (∃ r, T = l ++ k :: r) → Inv l W → Calls Tryz.prog g (#[.int .u32 (k : Int)] ++ cap) W fun e W' => e = .returned (.bool true) ∧ Inv (l ++ [k]) W') :
    Calls Tryz.prog 65 #[.pointer (some ⟨b, 0, none⟩), .func (.func g) #[] cap] w fun e w' => e = .returned (.tuple #[]) ∧ Inv T w' := by
  have hs0 := h
  obtain ⟨v, m, hb, ho, hm, hnd, hlt, hFF, hFn⟩ := h
  have c0 := hb.cell 0
  simp at c0
  rcases own_form ho with ⟨rfl, hz, _⟩ | ⟨ga, ca, rfl, hca, _, hcell, _, _⟩
  · have hT0 : T = [] := by simpa using hz
    subst hT0
    have H0 := Lib.hid h0
    clear h0 hkeep hstep hb ho hm hnd hlt hFF hFn hs0 hz
    go_enter Tryz.func65, Tryz.ntmps65
    go_wp2
    refine wp_loop_rounds 1 ?_
    rw [rounds_succ]
    go_wp2
    go_end0
    exact ⟨rfl, H0.out⟩
  · have X := Lib.hid (And.intro h0 (And.intro hkeep (And.intro hstep (And.intro hcell (And.intro hs0 (And.intro hlt (And.intro ho hFF)))))))
    clear h0 hkeep hstep hcell hs0 hlt hFF hFn hnd hm hb ho
    go_enter Tryz.func65, Tryz.ntmps65
    go_wp2
    go_loopw [13] (fun i wr => ∃ j : Nat, j ≤ T.length ∧ i = .int .i64 j ∧ Hid (Inv (T.take j) wr)) (fun i _ => T.length - (intOf i).toNat)
    case atStart => exact ⟨0, Nat.zero_le _, rfl, X.out.1⟩
    case round =>
      obtain ⟨j, hj, rfl, hI⟩ := hrel
      by_cases hlt : j < T.length
      · have hcw : wr.cell? ⟨ga, j, none⟩ = some (.int .u32 ((T[j] : Nat) : Int)) := by
          have hk := X.out.2.1 _ _ hI.out ga (by rw [X.out.2.2.2.2.2.2.2]; simp [Value.ownBlock])
          rw [World.cell?_of_block (a := ⟨ga, j, none⟩) hk]
          refine X.out.2.2.2.1 j _ ?_
          rw [List.getElem?_map, List.getElem?_eq_getElem hlt]
          rfl
        have hkj : T[j] < 4294967296 := X.out.2.2.2.2.2.1 _ (List.getElem_mem hlt)
        have hst := X.out.2.2.1 (T.take j) T[j] wr hkj ⟨T.drop (j + 1), by rw [List.getElem_cons_drop, List.take_append_drop]⟩ hI.out
        have htk : T.take j ++ [T[j]] = T.take (j + 1) := by rw [List.take_succ_eq_append_getElem hlt]
        rw [htk] at hst
        have HS := Lib.hid hst
        clear hst htk
        generalize T[j] = kj at hcw hkj HS
        go_wp2_with fail
        refine HS.out.mono ?_
        rintro e w1 ⟨rfl, hI1⟩
        have HI1 := Lib.hid hI1
        clear hI1
        go_wp2_with fail
        go_roundw
        case rel => exact ⟨j + 1, by omega, by go_num, HI1⟩
        case measure => simp [intOf]; omega
      · go_wp2
        go_end0
        refine ⟨rfl, ?_⟩
        have := hI.out
        rwa [List.take_of_length_le (by omega)] at this

set_option maxHeartbeats 400000 in
set_option maxRecDepth 100000 in
theorem forEach_nil (w : World) (fv : Value) : Calls Tryz.prog 65 #[.pointer none, fv] w fun e w' => e = .returned (.tuple #[]) ∧ w = w' := by
  go_enter Tryz.func65, Tryz.ntmps65
  go_wp2
  refine bodyPost_ret (results_none rfl _ _ _) rfl ?_
  exact ⟨rfl, rfl⟩

set_option maxHeartbeats 400000 in
set_option maxRecDepth 100000 in
theorem clear78_any (w : World) (b : Nat) (F T : List Nat) (h : SetAt w b F T) :
    Calls Tryz.prog 78 #[.agg #[.pointer (some ⟨b, 0, none⟩)]] w (Cleared w b F) := by
  have H := Lib.hid h
  clear h
  go_enter Tryz.func78, Tryz.ntmps78
  go_wp2_with fail
  refine (clear88_any _ b F T (H.out.alloc _)).mono ?_
  rintro e w1 ⟨F', rfl, hs, hc, hg⟩
  have X := Lib.hid (And.intro hs (And.intro hc hg))
  clear hs hc hg
  go_wp2_with fail
  go_end0
  obtain ⟨hs, hc, hg⟩ := X.out
  exact ⟨F', rfl, hs, hc.of_alloc, hg.of_alloc⟩

theorem eg79 : ∀ args w, (callFunc 79 args).run Tryz.prog w = .ok (.enter 79 args) w := enters_of Tryz.func79 (by kernel_rfl) rfl
theorem eg66 : ∀ args w, (callFunc 66 args).run Tryz.prog w = .ok (.enter 66 args) w := enters_of Tryz.func66 (by kernel_rfl) rfl
theorem eg81 : ∀ args w, (callFunc 81 args).run Tryz.prog w = .ok (.enter 81 args) w := enters_of Tryz.func81 (by kernel_rfl) rfl
theorem eg84 : ∀ args w, (callFunc 84 args).run Tryz.prog w = .ok (.enter 84 args) w := enters_of Tryz.func84 (by kernel_rfl) rfl
theorem eg62 : ∀ args w, (callFunc 62 args).run Tryz.prog w = .ok (.enter 62 args) w := enters_of Tryz.func62 (by kernel_rfl) rfl
theorem eg71 : ∀ args w, (callFunc 71 args).run Tryz.prog w = .ok (.enter 71 args) w := enters_of Tryz.func71 (by kernel_rfl) rfl
theorem eg73 : ∀ args w, (callFunc 73 args).run Tryz.prog w = .ok (.enter 73 args) w := enters_of Tryz.func73 (by kernel_rfl) rfl

/-- What the closures of Merge and Clone leave. -/
def Added' (w : World) (b : Nat) (F T : List Nat) (k : Nat) (e : Ending) (w' : World) : Prop :=
  ∃ F', e = .returned (.bool true) ∧ SetAt w' b F' (ins T k) ∧ Chg F w w' ∧ Grew w F F'

set_option maxHeartbeats 400000 in
set_option maxRecDepth 100000 in
theorem merge79_any (w : World) (c b : Nat) (F T : List Nat) (k : Nat) (hbox : Blk w c 56 #[.pointer (some ⟨b, 0, none⟩)]) (h : SetAt w b F T) (hk : k < 4294967296) (hT : T.length < 100000000) :
    Calls Tryz.prog 79 #[.int .u32 (k : Int), .pointer (some ⟨c, 0, none⟩)] w (Added' w b F T k) := by
  have H := Lib.hid h
  have c0 := hbox.cell 0
  simp at c0
  clear h hbox
  go_enter Tryz.func79, Tryz.ntmps79
  go_wp2_with fail
  refine (add_any _ b F T k H.out hk hT).mono ?_
  rintro e w1 ⟨F', rfl, hs, hc, hg⟩
  have X := Lib.hid (And.intro hs (And.intro hc hg))
  clear hs hc hg
  go_wp2_with fail
  go_ret
  obtain ⟨hs, hc, hg⟩ := X.out
  exact ⟨F', rfl, hs, hc, hg⟩

set_option maxHeartbeats 400000 in
set_option maxRecDepth 100000 in
theorem clone66_any (w : World) (c b : Nat) (F T : List Nat) (k : Nat) (hbox : Blk w c 54 #[.pointer (some ⟨b, 0, none⟩)]) (h : SetAt w b F T) (hk : k < 4294967296) (hT : T.length < 100000000) :
    Calls Tryz.prog 66 #[.int .u32 (k : Int), .pointer (some ⟨c, 0, none⟩)] w (Added' w b F T k) := by
  have H := Lib.hid h
  have c0 := hbox.cell 0
  simp at c0
  clear h hbox
  go_enter Tryz.func66, Tryz.ntmps66
  go_wp2_with fail
  refine (add_any _ b F T k H.out hk hT).mono ?_
  rintro e w1 ⟨F', rfl, hs, hc, hg⟩
  have X := Lib.hid (And.intro hs (And.intro hc hg))
  clear hs hc hg
  go_wp2_with fail
  go_ret
  obtain ⟨hs, hc, hg⟩ := X.out
  exact ⟨F', rfl, hs, hc, hg⟩
end Go.Proofs.YtgoliddhhichgaaGreatDoor
