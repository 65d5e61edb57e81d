/- The walks of the compressed list: making, appending, copying. -/
import Derived.Test.YtgoliddhhichgaaGreatDoorListA
import Derived.Deep.RegionHeld3
import Derived.Deep.RegionLaw
import Derived.Laws.CopyOwn
import Derived.OwnWalk
namespace Go.Proofs.YtgoliddhhichgaaGreatDoor
open Go.RowKit Pl

/-- make with length 0. -/
theorem wpMake0 {t e : TypeId} {z : Value} {bytes : Nat} (A : AppT t e z bytes) (w : World) {ops : Array Oper} {rest : List Oper} {o : Oper} {a : Act} {Q : Exit → Act → World → Prop} (hg : o.guard = none) (l c : Operand)
    (hop : o.op = Op.makeSlice t l c) (kl kc : IntKind) (n : Nat) (hl : a.eval l = .int kl 0) (hc : a.eval c = .int kc (n : Int)) (hb : bytes ≤ 64) (hn : n ≤ 1000000000)
    (hK : ∀ w', w'.ownsRow 0 e 1 (.slice (some ⟨w.heap.size, 0, none⟩) 0 n) 0 [] → w.grownBy w' none → wpList Tryz.prog ops Q rest (a.put o.dst (.slice (some ⟨w.heap.size, 0, none⟩) 0 n)) w') :
    wpList Tryz.prog ops Q (o :: rest) a w := by
  obtain ⟨i, hi, hz0, hz1, hz2⟩ := info_parts A.info
  refine wpList_make_own w hg l c t hop 0 e i z 1 A.ht hi hz0 hz1 kl kc n n hl hc rfl ?_ (by unfold maxLen; omega) (Nat.zero_le _) hK
  rw [hz2]
  calc bytes * n ≤ 64 * 1000000000 := Nat.mul_le_mul hb hn
    _ ≤ 281474976710656 := by omega
/-- make with length n. -/
theorem wpMakeN {t e : TypeId} {z : Value} {bytes : Nat} (A : AppT t e z bytes) (hz : z.cells = #[z]) (w : World) {ops : Array Oper} {rest : List Oper} {o : Oper} {a : Act} {Q : Exit → Act → World → Prop} (hg : o.guard = none) (l c : Operand)
    (hop : o.op = Op.makeSlice t l c) (kl kc : IntKind) (n : Nat) (hl : a.eval l = .int kl (n : Int)) (hc : a.eval c = .int kc (n : Int)) (hb : bytes ≤ 64) (hn : n ≤ 1000000000)
    (hK : ∀ w', Blk w' w.heap.size e (List.replicate n z).toArray → w.grownBy w' none → wpList Tryz.prog ops Q rest (a.put o.dst (.slice (some ⟨w.heap.size, 0, none⟩) n n)) w') :
    wpList Tryz.prog ops Q (o :: rest) a w := by
  obtain ⟨i, hi, hz0, hz1, hz2⟩ := info_parts A.info
  refine wpList_make_full w hg l c t hop 0 e i z 1 A.ht hi hz0 hz1 kl kc n n n hl hc rfl rfl ?_ (by unfold maxLen; omega) (Nat.zero_le _) fun w' ho hg => hK w' ?_ hg
  · rw [hz2]
    have := Nat.mul_le_mul hb hn
    omega
  · rw [hz, Nat.mul_one, toList_madeCells_one] at ho
    rcases ho.2 with ⟨h0, _⟩ | ⟨g, cap, cur, h0, h1, h2, h3, h4, h5, h6⟩
    · cases h0
    · simp only [Value.slice.injEq, Option.some.injEq, Addr.mk.injEq] at h0
      obtain ⟨⟨e1, _, _⟩, e2, e3⟩ := h0
      subst e1; subst e3
      unfold Blk
      rw [h2]
      simp only [Nat.mul_one] at h5 h6
      rw [List.take_of_length_le (by simp; omega)] at h6
      rw [← h6]
/-- A block known whole, read as a row. -/
theorem Blk.own {w : World} {g : Nat} {e : TypeId} {xs : List Value} {n : Nat} (h : Blk w g e xs.toArray) (hn : n = xs.length) (hm : n ≤ maxLen) : w.ownsRow 0 e 1 (.slice (some ⟨g, 0, none⟩) n n) n xs := by
  subst hn
  exact ⟨by simp, .inr ⟨g, _, xs.toArray, rfl, Nat.zero_le _, h, Nat.le_refl _, hm, by simp, by simp⟩⟩

theorem Chg.thenBelow {F : List Nat} {a w w' : World} {B : Nat} (h : Chg F a w) (hb : Below B w w') (hB : a.heap.size ≤ B) : Chg F a w' :=
  ⟨hb.os.trans h.os, hb.tape.trans h.tape, hb.output.trans h.output, Nat.le_trans h.size hb.size, fun k hk hF => (hb.block k (by omega)).trans (h.block k hk hF)⟩

def LApp (w : World) (b : Nat) (F L : List Nat) (k : Nat) (e : Ending) (w' : World) : Prop :=
  ∃ F', e = .returned (.tuple #[]) ∧ ListAt w' b F' (L ++ [k]) ∧ Chg F w w' ∧ Grew w F F'

set_option maxHeartbeats 400000 in
set_option maxRecDepth 100000 in
/-- (*compressedList).Append. -/
theorem lappend_any (w : World) (b : Nat) (F L : List Nat) (k : Nat) (h : ListAt w b F L) (hk : k < 4294967296) (hn : (bytesOf L).length < 90000000) :
    Calls Tryz.prog 75 #[.pointer (some ⟨b, 0, none⟩), .int .u32 (k : Int)] w (LApp w b F L k) := by
  have hn1 := (bytesFrom_len 0 L).1
  obtain ⟨v, hb, ho, hlt, rfl, hFn⟩ := h
  obtain ⟨A, c, rfl, hc⟩ := own_slice ho
  obtain ⟨la, hla⟩ : ∃ la, la = L.getLastD 0 := ⟨_, rfl⟩
  obtain ⟨X, hX⟩ : ∃ X, X = (k + 4294967296 - la) % 4294967296 := ⟨_, rfl⟩
  have hll : la < 4294967296 := by rw [hla]; exact getLastD_lt _ _ _ (by omega) hlt
  have hXl : X < 4294967296 := by omega
  have hL : L.length < 90000000 := Nat.lt_of_le_of_lt hn1 hn
  rw [← hla] at hb
  have hXi : ((k : Int) - la) % 4294967296 = (X : Int) := by omega
  have c0 := hb.cell 0
  have f0 := hb.frozen 0
  have c1 := hb.cell 1
  have f1 := hb.frozen 1
  have c2 := hb.cell 2
  have f2 := hb.frozen 2
  simp [vU32] at c0 c1 c2
  have hown := Own.bys ho
  have hne := own_ne ho hb (by decide)
  simp only [List.length_map] at *
  have hXw : IntKind.u32.wrap ((k : Int) - la) = X := by simp [IntKind.wrap, IntKind.signed, IntKind.bits]; omega
  have hb1 := hb.set_ 0 (vU32 (L.length + 1))
  have hbt := hb.lt
  have hc1 : Chg (b :: (Value.slice A (bytesOf L).length c).ownBlock.toList) w (w.setCell ⟨b, 0, none⟩ (vU32 (L.length + 1))) := (Chg.refl _ w).setCell (.inl (by simp)) _
  have hown1 : Bys (w.setCell ⟨b, 0, none⟩ (vU32 (L.length + 1))) (Value.slice A (bytesOf L).length c) (bytesOf L) := own_agree hown (fun g hg => Below.heap_setCell _ _ _ g (by rintro rfl; exact hne hg))
  have H := Lib.hid (And.intro hFn (And.intro hX (And.intro hla hne)))
  have HB := Lib.hid hlt
  clear hX hla hFn ho hown hb hc hn1 hne hlt
  simp [vU32] at hb1
  have e0 := hb1.cell 1
  have e1 := hb1.cell 2
  have e2 := hb1.frozen 1
  have e3 := hb1.frozen 2
  simp at e0 e1
  simp only [vU32, Int.natCast_add, Int.natCast_one] at hc1 hown1
  have H1 := Lib.hid (And.intro hb1 (And.intro hc1 hown1))
  clear hb1 hc1 hown1
  go_enter Tryz.func75, Tryz.ntmps75
  go_wp2_with fail
  generalize w.setCell ⟨b, 0, none⟩ (.int .u32 ((L.length : Int) + 1)) = w1 at H1 e0 e1 e2 e3 ⊢
  clear f0 f1 f2 c0 c1 c2
  go_region_law ((go_simp; go_at_call 47; refine (vappend_any _ _ (bytesOf L) X (show Bys w1.drew _ _ from H1.out.2.2) hXl (by omega)).mono ?_; rintro e w2 ⟨g, c2, rfl, hb2, hc2, hg2⟩; have hb5 := (H1.out.1.drew.chg hc2 (fun hm => H.out.2.2.2 (by simpa using hm))); have x1 := hb5.cell 1; have x2 := hb5.cell 2; have x3 := hb5.frozen 2; simp at x1 x2; have Y := Lib.hid (And.intro hb2 (And.intro hc2 (And.intro hg2 hb5))); clear hb2 hc2 hg2 hb5))
  all_goals
    have y2 := (Y.out.2.2.2.set_ 2 (.slice (some ⟨g, 0, none⟩) ((bytesOf L).length + (vint X).length) c2)).cell 1
    have y3 := (Y.out.2.2.2.set_ 2 (.slice (some ⟨g, 0, none⟩) ((bytesOf L).length + (vint X).length) c2)).frozen 1
    simp at y2
    go_wp2
    go_end0
    obtain ⟨hb1, hc1, hown1⟩ := H1.out
    obtain ⟨hFn, hX, hla, hne⟩ := H.out
    obtain ⟨hb2, hc2, hg2, hb5⟩ := Y.out
    have hgb : g ≠ b := by
      rintro rfl
      rcases hg2 with e | e
      · exact hne e
      · have := hb1.lt; simp at e; omega
    refine ⟨b :: (Value.slice (some ⟨g, 0, none⟩) ((bytesOf L).length + (vint X).length) c2).ownBlock.toList, rfl, ⟨.slice (some ⟨g, 0, none⟩) ((bytesOf L).length + (vint X).length) c2, ?_, ?_, ?_, rfl, ?_⟩, ?_, ?_⟩
    · have := (hb5.set_ 2 (.slice (some ⟨g, 0, none⟩) ((bytesOf L).length + (vint X).length) c2)).set_ 1 (vU32 k)
      rw [getLastD_append_one]
      simpa [vU32] using this
    · refine own_agree (w := w2) ?_ (fun g2 h2 => ?_)
      · have e : bytesOf (L ++ [k]) = bytesOf L ++ vint X := by rw [bytesOf_append, hX, hla]; simp [bytesFrom]
        rw [e]
        have := hb2
        unfold Bys at this
        simpa using this
      · simp [Value.ownBlock] at h2
        subst h2
        rw [Below.heap_setCell _ _ _ _ hgb, Below.heap_setCell _ _ _ _ hgb]
    · intro x hx
      rcases List.mem_append.1 hx with h | h
      · exact HB.out x h
      · simp at h; omega
    · simp [Value.ownBlock]; omega
    · exact (((hc1.drew).trans hc2 (fun x hx => .inl (List.mem_cons_of_mem _ hx))).setCell (.inl (by simp)) _).setCell (.inl (by simp)) _
    · intro x hx
      simp [Value.ownBlock] at hx
      rcases hx with rfl | rfl
      · exact .inl (by simp)
      · rcases hg2 with e | e
        · exact .inl (by simp [e])
        · have := hc1.size; simp at e; exact .inr (by omega)

/-- A new list. -/
def NewL (w : World) (L : List Nat) (e : Ending) (w' : World) : Prop :=
  ∃ b F, e = .returned (.pointer (some ⟨b, 0, none⟩)) ∧ ListAt w' b F L ∧ Chg [] w w' ∧ Grew w [] F

set_option maxHeartbeats 400000 in
set_option maxRecDepth 100000 in
/-- newCompressedList. -/
theorem newList_any (w : World) (n : Nat) (hn : n < 100000000) : Calls Tryz.prog 25 #[.int .i64 (n : Int)] w (NewL w []) := by
  go_enter Tryz.func25, Tryz.ntmps25
  go_wp2_with (at_make; refine wpMake0 A89 _ rfl _ _ rfl .i64 .i64 n rfl rfl (by omega) (by omega) ?_; intro w2 ho2 hg2; have hb2 := (Blk.new w 93 #[.int .u32 0, .int .u32 0, .slice none 0 0]).grown hg2 (by simp); have f2 := hb2.frozen 2; have d2 := hb2.cell 2; simp at d2; have X := Lib.hid (And.intro ho2 (And.intro hg2 hb2)); clear ho2 hg2 hb2)
  go_ret
  obtain ⟨ho2, hg2, hb2⟩ := X.out
  have hc2 : Chg [] w w2 := ((Chg.refl _ w).alloc _).grown hg2 (by simp)
  refine ⟨w.heap.size, [w.heap.size, w.heap.size + 1], rfl, ⟨.slice (some ⟨w.heap.size + 1, 0, none⟩) 0 n, by simpa [vU32] using hb2.set_ 2 (.slice (some ⟨w.heap.size + 1, 0, none⟩) 0 n), ?_, by simp, by simp [Value.ownBlock], by simp⟩, hc2.setCell (.inr (Nat.le_refl _)) _, ?_⟩
  · have ho3 : w2.ownsRow 0 5 1 (.slice (some ⟨w.heap.size + 1, 0, none⟩) 0 n) 0 [] := by simpa using ho2
    refine own_agree (w := w2) ho3 (fun g hg => Below.heap_setCell _ _ _ g ?_)
    simp [Value.ownBlock] at hg
    show g ≠ w.heap.size
    omega
  · intro x hx
    simp at hx
    exact .inr (by omega)

set_option maxHeartbeats 400000 in
set_option maxRecDepth 100000 in
/-- (*compressedList).Clone. -/
theorem lclone_any (w : World) (b : Nat) (F L : List Nat) (h : ListAt w b F L) (hn : (bytesOf L).length < 90000000) :
    Calls Tryz.prog 36 #[.pointer (some ⟨b, 0, none⟩)] w (NewL w L) := by
  obtain ⟨v, hb, ho, hlt, rfl, hFn⟩ := h
  obtain ⟨A, c, rfl, hc⟩ := own_slice ho
  have hown := Own.bys ho
  simp only [List.length_map] at *
  obtain ⟨la, hla⟩ : ∃ la, la = L.getLastD 0 := ⟨_, rfl⟩
  rw [← hla] at hb
  have c0 := hb.cell 0
  have c1 := hb.cell 1
  have c2 := hb.cell 2
  simp [vU32] at c0 c1 c2
  have H := Lib.hid (And.intro hb (And.intro hown (And.intro hFn (And.intro hlt hla))))
  clear hla hFn ho hown hb hc hlt
  go_enter Tryz.func36, Tryz.ntmps36
  go_wp2_with fail
  go_region
  have hB : Blk (w.alloc (Obj.cells #[Value.int IntKind.u32 ↑L.length, Value.int IntKind.u32 ↑la, Value.slice none 0 0] 93)).drew w.heap.size 93 #[Value.int IntKind.u32 ↑L.length, Value.int IntKind.u32 ↑la, Value.slice none 0 0] := Blk.new w 93 _
  have hb := (H.out.1.alloc (Obj.cells #[Value.int IntKind.u32 ↑L.length, Value.int IntKind.u32 ↑la, Value.slice none 0 0] 93)).drew
  have hc1 := ((Chg.refl [] w).alloc (Obj.cells #[Value.int IntKind.u32 ↑L.length, Value.int IntKind.u32 ↑la, Value.slice none 0 0] 93)).drew
  have hs : (w.alloc (Obj.cells #[Value.int IntKind.u32 ↑L.length, Value.int IntKind.u32 ↑la, Value.slice none 0 0] 93)).drew.heap.size = w.heap.size + 1 := by simp
  generalize (w.alloc (Obj.cells #[Value.int IntKind.u32 ↑L.length, Value.int IntKind.u32 ↑la, Value.slice none 0 0] 93)).drew = w1 at hB hb hc1 hs ⊢
  clear c0 c1 c2
  have c2 := hb.cell 2
  simp at c2
  have X := Lib.hid (And.intro hB (And.intro hb (And.intro hc1 hs)))
  clear hB hb hc1 hs
  go_wp2_with (at_make; refine wpMakeN A89 rfl _ rfl _ _ rfl .i64 .i64 (bytesOf L).length rfl rfl (by omega) (by omega) ?_; intro w2 ho2 hg2; have hB2 := X.out.1.grown hg2 (by simp); have hb2 := X.out.2.1.grown hg2 (by simp); have f2 := hB2.frozen 2; have d2 := hB2.cell 2; simp at d2; have Y := Lib.hid (And.intro ho2 (And.intro hg2 (And.intro hB2 hb2))); clear ho2 hg2 hB2 hb2)
  obtain ⟨ho2, hg2, hB2, hb2⟩ := Y.out
  obtain ⟨hB, hb, hc1, hs⟩ := X.out
  obtain ⟨hbw, hown, hFn, hlt, hla⟩ := H.out
  have hc3 : Chg [] w (w2.setCell ⟨w.heap.size, 2, none⟩ (.slice (some ⟨w1.heap.size, 0, none⟩) (bytesOf L).length (bytesOf L).length)) := (hc1.grown hg2 (by simp)).setCell (.inr (Nat.le_refl _)) _
  have hB3 := hB2.set_ 2 (.slice (some ⟨w1.heap.size, 0, none⟩) (bytesOf L).length (bytesOf L).length)
  have hN3 : Blk (w2.setCell ⟨w.heap.size, 2, none⟩ (.slice (some ⟨w1.heap.size, 0, none⟩) (bytesOf L).length (bytesOf L).length)) w1.heap.size 5 (List.replicate (bytesOf L).length (.int .u8 0)).toArray := ho2.far (by simp [hs]) _
  have hbl := hbw.lt
  have hb3 := hb2.far (p := ⟨w.heap.size, 2, none⟩) (by simp; omega) (.slice (some ⟨w1.heap.size, 0, none⟩) (bytesOf L).length (bytesOf L).length)
  have hown3 := own_agree hown (fun g hg => hc3.same (own_lt hown hg) (by simp))
  generalize w2.setCell ⟨w.heap.size, 2, none⟩ (.slice (some ⟨w1.heap.size, 0, none⟩) (bytesOf L).length (bytesOf L).length) = w3 at hc3 hB3 hN3 hb3 hown3 ⊢
  rw [hs] at hN3 hB3 ⊢
  simp at hB3
  have x2 := hB3.cell 2
  have y2 := hb3.cell 2
  simp at x2 y2
  obtain ⟨cs, hcs⟩ : ∃ cs, cs = (bytesOf L).map vU8 := ⟨_, rfl⟩
  obtain ⟨zs, hzs⟩ : ∃ zs : List Value, zs = List.replicate (bytesOf L).length (.int .u8 0) := ⟨_, rfl⟩
  rw [← hzs] at hN3
  have hzl : Hid (zs.length = (bytesOf L).length) := by show _ = _; rw [hzs]; simp
  have hcl : Hid (cs.length = (bytesOf L).length) := by show _ = _; rw [hcs]; simp
  have hone : Hid (∀ v ∈ cs, v.oneCell' = true) := by show ∀ v ∈ cs, _; rw [hcs]; intro v hv; obtain ⟨a, _, rfl⟩ := List.mem_map.1 hv; rfl
  have hpos : Hid (0 < cs.length → ∃ ad, A = some ad ∧ ∀ j v, cs[j]? = some v → w3.drew.cell? (ad.add j) = some v) := by
    show 0 < cs.length → _
    intro hp
    rcases own_form hown3 with ⟨_, h0, _⟩ | ⟨g, cap, e, _, _, hcell, _⟩
    · have := hcl.out; omega
    · injection e with e1 e2 e3
      subst e1
      refine ⟨_, rfl, fun j v hv => ?_⟩
      have hadd : (⟨g, 0, none⟩ : Addr).add j = ⟨g, j, none⟩ := by unfold Addr.add; split <;> simp_all
      rw [hadd]
      exact hcell j v (by rw [← hcs]; exact hv)
  have Z := Lib.hid (And.intro hc3 (And.intro hB3 (And.intro hN3 (And.intro hown3 (And.intro hFn (And.intro hlt (And.intro hla (And.intro hcs (And.intro hs hbl)))))))))
  clear hc3 hB3 hN3 hb3 hown3 hFn hlt hla hcs hzs ho2 hg2 hB2 hb2 hB hb hc1 hs hbw hown d2 f2 c2 hbl
  go_region_law (refine step_copy_splice rfl (.tmp 28) (.tmp 32) 89 89 rfl 5 A89.ht (by kernel_rfl) (some ⟨w.heap.size + 1, 0, none⟩) A (bytesOf L).length (bytesOf L).length (bytesOf L).length c (by simp [Act.eval]) (by simp [Act.eval]) (w.heap.size + 1) 0 zs 5 Z.out.2.2.1 cs (by rw [hcl.out]; exact (Nat.min_self _).symm) (fun hp => ⟨rfl, hpos.out hp⟩) (by rw [hcl.out, hzl.out]; omega) hone.out (w.heap.size + 1) w3.drew (Below.refl _ _) (Nat.le_refl _) ?_; intro w4 HG4 hB4)
  all_goals
    go_wp2
    go_ret
    obtain ⟨hc3, hB3, hN3, hown3, hFn, hlt, hla, hcs, hs, hbl⟩ := Z.out
    have hsp : splice zs 0 cs = cs := by
      unfold splice
      rw [List.take_zero, List.drop_eq_nil_of_le (by rw [hzl.out, hcl.out]; omega)]
      simp
    have hG := HG4.out
    rw [hsp] at hG
    have hc4 : Chg [] w w4 := hc3.drew.thenBelow hB4 (by omega)
    refine ⟨w.heap.size, [w.heap.size, w.heap.size + 1], rfl, ⟨.slice (some ⟨w.heap.size + 1, 0, none⟩) (bytesOf L).length (bytesOf L).length, ?_, ?_, hlt, by simp [Value.ownBlock], by simp⟩, hc4, ?_⟩
    · rw [← hla]
      exact hB3.agree (hB4.block _ (by omega))
    · unfold Own
      rw [← hcs]
      have := Blk.own (w := w4) (g := w.heap.size + 1) (e := 5) (xs := cs) (n := (bytesOf L).length) hG hcl.out.symm (by unfold maxLen; omega)
      rwa [hcl.out]
    · intro x hx
      simp at hx
      exact .inr (by omega)
set_option maxHeartbeats 400000 in
set_option maxRecDepth 100000 in
theorem lclone_nil (w : World) : Calls Tryz.prog 36 #[.pointer none] w fun e w' => e = .returned (.pointer none) ∧ w = w' := by
  go_enter Tryz.func36, Tryz.ntmps36
  go_wp2_with fail
  go_ret
  exact ⟨rfl, rfl⟩
end Go.Proofs.YtgoliddhhichgaaGreatDoor
