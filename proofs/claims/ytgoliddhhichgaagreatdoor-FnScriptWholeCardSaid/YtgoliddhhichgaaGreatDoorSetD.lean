/- The walks of the set of keys: ForEach with a function, AppendBinary. -/
import Derived.Test.YtgoliddhhichgaaGreatDoorSetC
namespace Go.Proofs.YtgoliddhhichgaaGreatDoor
open Go.RowKit Pl

set_option maxHeartbeats 400000 in
set_option maxRecDepth 100000 in
/-- The closure in set.ForEach. -/
theorem fe81_any (w : World) (c : Nat) (g : FuncId) (cap : Array Value) (eg : ∀ args w, (callFunc g args).run Tryz.prog w = .ok (.enter g args) w) (hbox : w.cell? ⟨c, 0, none⟩ = some (.func (.func g) #[] cap))
    (k : Int) (R : World → Prop) (hg : Calls Tryz.prog g (#[.int .u32 k] ++ cap) w fun e w' => e = .returned (.tuple #[]) ∧ R w') :
    Calls Tryz.prog 81 #[.int .u32 k, .pointer (some ⟨c, 0, none⟩)] w fun e w' => e = .returned (.bool true) ∧ R w' := by
  have H := Lib.hid hg
  clear hg
  go_enter Tryz.func81, Tryz.ntmps81
  go_wp2_with fail
  refine H.out.mono ?_
  rintro e w' ⟨rfl, hR⟩
  have HR := Lib.hid hR
  clear hR
  go_wp2_with fail
  go_ret
  exact ⟨rfl, HR.out⟩

set_option maxHeartbeats 400000 in
set_option maxRecDepth 100000 in
/-- (set).ForEach. -/
theorem sforEach_any (w : World) (b : Nat) (F T : List Nat) (h : SetAt w b F T) (g : FuncId) (cap : Array Value) (eg : ∀ args w, (callFunc g args).run Tryz.prog w = .ok (.enter g args) w)
    (w2 : World) (hw2 : w2 = (w.alloc (.cells #[.pointer (some ⟨b, 0, none⟩)] 56)).alloc (.cells #[.func (.func g) #[] cap] 105))
    (Inv : List Nat → World → Prop) (h0 : Inv [] w2) (hkeep : ∀ l W, Inv l W → (∀ k, k ∈ F → W.heap[k]? = w2.heap[k]?) ∧ W.heap[w.heap.size + 1]? = w2.heap[w.heap.size + 1]?) (hT : T.length < 100000000)
    (hstep : ∀ l k W, k < 4294967296 → (∃ r, T = l ++ k :: r) → Inv l W → Calls Tryz.prog g (#[.int .u32 (k : Int)] ++ cap) W fun e W' => e = .returned (.tuple #[]) ∧ Inv (l ++ [k]) W') :
    Calls Tryz.prog 61 #[.agg #[.pointer (some ⟨b, 0, none⟩)], .func (.func g) #[] cap] w fun e w' => e = .returned (.tuple #[]) ∧ Inv T w' := by
  have hs2 : SetAt w2 b F T := by rw [hw2]; exact (h.alloc _).alloc _
  have hbx : Blk w2 (w.heap.size + 1) 105 #[.func (.func g) #[] cap] := by rw [hw2]; simpa using Blk.new (w.alloc (.cells #[.pointer (some ⟨b, 0, none⟩)] 56)) 105 #[.func (.func g) #[] cap]
  have hcall := forEach_any w2 b F T hs2 81 #[.pointer (some ⟨w.heap.size + 1, 0, none⟩)] eg81 Inv h0 (fun l W hI => (hkeep l W hI).1) hT
    (fun l k W hk hr hI => fe81_any W (w.heap.size + 1) g cap eg ((hbx.agree (hkeep l W hI).2).cell 0) k _ (hstep l k W hk hr hI))
  have H := Lib.hid hcall
  rw [hw2] at H
  clear hcall h hw2 h0 hkeep hstep hs2 hbx
  go_enter Tryz.func61, Tryz.ntmps61
  go_wp2_with fail
  refine H.out.mono ?_
  rintro e w3 ⟨rfl, hI⟩
  have HI := Lib.hid hI
  clear hI
  go_wp2_with fail
  go_end0
  exact ⟨rfl, HI.out⟩

set_option maxHeartbeats 400000 in
set_option maxRecDepth 100000 in
theorem sforEach_nil (w : World) (g : FuncId) (cap : Array Value) :
    Calls Tryz.prog 61 #[.agg #[.pointer none], .func (.func g) #[] cap] w fun e w' => e = .returned (.tuple #[]) ∧ Chg [] w w' := by
  go_enter Tryz.func61, Tryz.ntmps61
  go_wp2_with fail
  refine (forEach_nil _ _).mono ?_
  rintro e w3 ⟨rfl, rfl⟩
  go_wp2_with fail
  go_end0
  exact ⟨rfl, ((Chg.refl _ _).alloc _).alloc _⟩

theorem cells_new (w : World) (l : List Value) (t : TypeId) : ∀ j u, l[j]? = some u → (w.alloc (.cells l.toArray t)).cell? ((⟨w.heap.size, 0, none⟩ : Addr).add j) = some u := by
  intro j u hj
  have hadd : (⟨w.heap.size, 0, none⟩ : Addr).add j = ⟨w.heap.size, j, none⟩ := by unfold Addr.add; split <;> simp_all
  rw [hadd, (Blk.new w t l.toArray).cell j]
  simpa using hj

def be32 (n : Nat) : List Nat := [n / 16777216 % 256, n / 65536 % 256, n / 256 % 256, n % 256]

/-- The bytes written so far, all in memory that is new since a. -/
def Data (a w : World) (v : Value) (xs : List Nat) : Prop := Own w 5 v (xs.map vU8) ∧ ∀ g, v.ownBlock = some g → a.heap.size ≤ g

set_option maxHeartbeats 400000 in
set_option maxRecDepth 100000 in
theorem ab84_any (a w : World) (c : Nat) (v : Value) (xs : List Nat) (k : Nat) (ha : Chg [] a w) (hac : a.heap.size ≤ c) (hbox : Blk w c 22 #[v]) (hd : Data a w v xs) (hk : k < 4294967296) (hx : xs.length < 100000000) :
    Calls Tryz.prog 84 #[.int .u32 (k : Int), .pointer (some ⟨c, 0, none⟩)] w fun e w' => e = .returned (.bool true) ∧ ∃ v', Chg [] a w' ∧ Blk w' c 22 #[v'] ∧ Data a w' v' (xs ++ be32 k) := by
  obtain ⟨ho, hloc⟩ := hd
  have c0 := hbox.cell 0
  simp at c0
  have hlt := hbox.lt
  have X := Lib.hid (And.intro ha (And.intro hbox (And.intro ho hloc)))
  clear ha hbox hloc
  go_enter Tryz.func84, Tryz.ntmps84
  go_wp2_with (first
    | (at_builtin; refine wpApp A22 _ rfl _ _ rfl v _ (xs.map vU8) rfl (ho.alloc _) ⟨w.heap.size, 0, none⟩ 4 4 [.int .u8 (↑k / 16777216), .int .u8 (↑k / 65536 % 256), .int .u8 (↑k / 256 % 256), .int .u8 (↑k % 256)] rfl rfl (cells_new _ _ _) (by simp [Value.oneCell']) (by omega) (by omega) (by simp; omega) ?_; intro g2 cap2 w2 ho2 hg2 hat2 _; have hb2 := (X.out.2.1.alloc _).grown hg2 (fun e => own_ne X.out.2.2.1 X.out.2.1 (by decide) e.symm); have d2 := hb2.cell 0; have f2 := hb2.frozen 0; simp at d2; have Y := Lib.hid hb2; clear hb2 c0))
  go_ret
  obtain ⟨ha, hbox, ho, hloc⟩ := X.out
  have hb2 := Y.out
  have hcv := own_ne ho hbox (by decide)
  have hg2l : ∀ g, v.ownBlock = some g → g ∈ ([] : List Nat) ∨ a.heap.size ≤ g := fun g hg => .inr (hloc g hg)
  have hg2c : g2 ≠ c := by
    rintro rfl
    rcases hat2 with e | e
    · exact hcv e
    · have := hbox.lt; simp at e; omega
  refine ⟨rfl, .slice (some ⟨g2, 0, none⟩) (xs.length + 4) cap2, ((ha.alloc _).grown hg2 hg2l).setCell (.inr hac) _, by simpa using hb2.set_ 0 _, ?_, ?_⟩
  · refine own_agree ?_ (fun g hg => Below.heap_setCell _ _ _ g ?_)
    · have e1 : (be32 k).map vU8 = [.int .u8 ((k : Int) / 16777216), .int .u8 ((k : Int) / 65536 % 256), .int .u8 ((k : Int) / 256 % 256), .int .u8 ((k : Int) % 256)] := by
        simp only [be32, List.map_cons, List.map_nil, vU8, Int.natCast_emod, Int.natCast_ediv]
        rw [show ((k : Int) / (16777216 : Nat) % (256 : Nat)) = (k : Int) / 16777216 by omega]
        rfl
      rw [List.map_append, e1, List.length_append]
      simpa using ho2
    · simp [Value.ownBlock] at hg; subst hg; exact hg2c
  · intro g hg
    simp [Value.ownBlock] at hg
    subst hg
    rcases hat2 with e | e
    · exact hloc _ e
    · have := ha.size; simp at e; omega

/-- The bytes of the keys. -/
def be32s (T : List Nat) : List Nat := T.flatMap be32
theorem be32s_len (T : List Nat) : (be32s T).length = 4 * T.length := by
  induction T with
  | nil => rfl
  | cons k T ih => unfold be32s at ih ⊢; simp [be32] at ih ⊢; omega

set_option maxHeartbeats 1000000 in
set_option maxRecDepth 100000 in
/-- (*set).AppendBinary: sk + 3 is where the set lies in the sketch. -/
theorem sappend_any (a w : World) (s b : Nat) (F T : List Nat) (v : Value) (xs : List Nat) (ha : Chg [] a w) (hd : Data a w v xs) (h : SetAt w b F T) (hF : ∀ k, k ∈ F → k < a.heap.size)
    (hs : w.cell? ⟨s, 3, none⟩ = some (.pointer (some ⟨b, 0, none⟩))) (hsa : s < a.heap.size) (hT : T.length < 1000000) (hx : xs.length < 1000000) :
    Calls Tryz.prog 67 #[.pointer (some ⟨s, 3, none⟩), v] w fun e w' => ∃ v', e = .returned (.tuple #[v', .nilIface]) ∧ Chg [] a w' ∧ Data a w' v' (xs ++ be32 T.length ++ be32s T) := by
  obtain ⟨ho0, hloc⟩ := hd
  have ho : w.ownsRow 0 5 1 v xs.length (xs.map vU8) := by
    unfold Own at ho0
    rwa [List.length_map] at ho0
  have X := Lib.hid (And.intro ha (And.intro h (And.intro hF (And.intro ho hloc))))
  have hsl : s < w.heap.size := by have := ha.size; omega
  obtain ⟨A, c, rfl, hc⟩ := own_slice ho
  clear ha h hF hloc hc ho0
  go_enter Tryz.func67, Tryz.ntmps67
  go_wp2_with fail
  refine (len64_any _ b F T (X.out.2.1.alloc _)).mono ?_
  rintro e w' ⟨rfl, rfl⟩
  go_wp2_with (first
    | (at_builtin; refine wpApp A22 _ rfl _ _ rfl (.slice A xs.length c) _ (xs.map vU8) rfl ((ho.alloc _).alloc _) ⟨w.heap.size + 1, 0, none⟩ 4 4 [.int .u8 (↑T.length / 16777216), .int .u8 (↑T.length / 65536), .int .u8 (↑T.length / 256 % 256), .int .u8 (↑T.length % 256)] rfl rfl (by simpa using cells_new (w.alloc (.cells #[.slice A xs.length c] 22)) [.int .u8 (↑T.length / 16777216), .int .u8 (↑T.length / 65536), .int .u8 (↑T.length / 256 % 256), .int .u8 (↑T.length % 256)] 5) (by simp [Value.oneCell']) (by omega) (by omega) (by omega) ?_; intro g2 cap2 w2 ho2 hg2 hat2 _; have hb2 := ((Blk.new w 22 #[.slice A xs.length c]).alloc _).grown hg2 (fun e => by have := own_lt ho e.symm; omega); have d2 := hb2.cell 0; have f2 := hb2.frozen 0; simp at d2; have Y := Lib.hid hb2; have hs2 : w2.cell? ⟨s, 3, none⟩ = some (.pointer (some ⟨b, 0, none⟩)) := hg2.cell (by simpa using ((World.cell?_alloc_lt _ _ _ (by simp; omega)).trans (World.cell?_alloc_lt _ _ _ (by simpa using hsl))).trans hs) (fun e => by have := X.out.2.2.2.2 s e.symm; omega); clear hb2))
  obtain ⟨ha, h, hF, ho1, hloc⟩ := X.out
  have hb2 := Y.out
  have hz := ha.size
  have hg2w : g2 ≠ w.heap.size := by
    rintro rfl
    rcases hat2 with e | e
    · have := own_lt ho1 e; omega
    · simp at e; omega
  have hc2 : Chg [] a w2 := ((ha.alloc _).alloc _).grown hg2 (fun g hg => .inr (hloc g hg))
  have hc5 : Chg [] a (w2.setCell ⟨w.heap.size, 0, none⟩ (.slice (some ⟨g2, 0, none⟩) (xs.length + 4) cap2)) := hc2.setCell (.inr hz) _
  have hs5 : SetAt (w2.setCell ⟨w.heap.size, 0, none⟩ (.slice (some ⟨g2, 0, none⟩) (xs.length + 4) cap2)) b F T := by
    refine h.agree (fun k hk => ?_)
    have hk1 := hF k hk
    rw [hc5.same hk1 (by simp), ha.same hk1 (by simp)]
  have hb5 : Blk (w2.setCell ⟨w.heap.size, 0, none⟩ (.slice (some ⟨g2, 0, none⟩) (xs.length + 4) cap2)) w.heap.size 22 #[.slice (some ⟨g2, 0, none⟩) (xs.length + 4) cap2] := by simpa using hb2.set_ 0 (.slice (some ⟨g2, 0, none⟩) (xs.length + 4) cap2)
  have e1 : (be32 T.length).map vU8 = [.int .u8 ((T.length : Int) / 16777216), .int .u8 ((T.length : Int) / 65536), .int .u8 ((T.length : Int) / 256 % 256), .int .u8 ((T.length : Int) % 256)] := by
    simp only [be32, List.map_cons, List.map_nil, vU8, Int.natCast_emod, Int.natCast_ediv]
    rw [show ((T.length : Int) / (16777216 : Nat) % (256 : Nat)) = (T.length : Int) / 16777216 by omega, show ((T.length : Int) / (65536 : Nat) % (256 : Nat)) = (T.length : Int) / 65536 by omega]
    rfl
  have hd5 : Data a (w2.setCell ⟨w.heap.size, 0, none⟩ (.slice (some ⟨g2, 0, none⟩) (xs.length + 4) cap2)) (.slice (some ⟨g2, 0, none⟩) (xs.length + 4) cap2) (xs ++ be32 T.length ++ be32s []) := by
    refine ⟨own_agree ?_ (fun g hg => Below.heap_setCell _ _ _ g (by simp [Value.ownBlock] at hg; subst hg; exact hg2w)), fun g hg => ?_⟩
    · rw [show be32s [] = [] from rfl, List.append_nil, List.map_append, e1, List.length_append]
      simpa using ho2
    · simp [Value.ownBlock] at hg
      subst hg
      rcases hat2 with e | e
      · exact hloc _ e
      · simp at e; omega
  have hcall := forEach_any _ b F T hs5 84 #[.pointer (some ⟨w.heap.size, 0, none⟩)] eg84
    (fun l W => ∃ v, Chg [] a W ∧ Blk W w.heap.size 22 #[v] ∧ Data a W v (xs ++ be32 T.length ++ be32s l)) ⟨_, hc5, hb5, hd5⟩
    (fun l W ⟨v, hc, _, _⟩ k hk => by rw [hc.same (hF k hk) (by simp), hc5.same (hF k hk) (by simp)]) (by omega)
    (fun l k W hk ⟨r, hr⟩ ⟨v, hc, hbv, hdv⟩ => by
      have hl : l.length ≤ T.length := by rw [hr]; simp
      refine (ab84_any a W w.heap.size v _ k hc hz hbv hdv hk (by have := be32s_len l; simp only [List.length_append, show (be32 T.length).length = 4 from rfl]; omega)).mono ?_
      rintro e W' ⟨rfl, v', hc', hb', hd'⟩
      refine ⟨rfl, v', hc', hb', ?_⟩
      have : be32s (l ++ [k]) = be32s l ++ be32 k := by simp [be32s]
      rw [this, ← List.append_assoc]
      exact hd')
  refine hcall.mono ?_
  rintro e w6 ⟨rfl, v', hc6, hb6, hd6⟩
  have c6 := hb6.cell 0
  simp at c6
  have Z := Lib.hid (And.intro hc6 hd6)
  clear hcall hc6 hd6 hb6 hd5 hb5 hs5 hc5 hc2 hg2w hb2 ha h hF ho1 hloc d2 f2 hs2 ho2 hg2 hat2 Y hz e1
  go_wp2_with fail
  go_ret2
  exact ⟨v', rfl, Z.out.1, Z.out.2⟩
end Go.Proofs.YtgoliddhhichgaaGreatDoor
