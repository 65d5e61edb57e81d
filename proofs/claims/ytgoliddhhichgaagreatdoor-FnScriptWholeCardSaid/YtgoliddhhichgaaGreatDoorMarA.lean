/- The walk of AppendBinary, MarshalBinary. -/
import Derived.Test.YtgoliddhhichgaaGreatDoorListD
import Derived.Test.YtgoliddhhichgaaGreatDoorReg
import Derived.Test.YtgoliddhhichgaaGreatDoorSetD
namespace Go.Proofs.YtgoliddhhichgaaGreatDoor
open Go.RowKit Pl

/-- The bytes of a sketch as they are written. -/
def skBytes (p : Nat) : Rep → List Nat
  | .sparse T L => [2, p, 0, 1] ++ be32 T.length ++ be32s T ++ lbytes L
  | .dense R => [2, p, 0, 0] ++ be32 R.length ++ R

theorem row_cells {w : World} {e : TypeId} {g n c : Nat} {xs : List Value} (h : w.ownsRow 0 e 1 (.slice (some ⟨g, 0, none⟩) n c) n xs) : ∀ j u, xs[j]? = some u → w.cell? ((⟨g, 0, none⟩ : Addr).add j) = some u := fun j u hu => by
  rcases own_form h with ⟨h0, _⟩ | ⟨g', cap, h0, _, _, hcell, _⟩
  · cases h0
  · simp only [Value.slice.injEq, Option.some.injEq, Addr.mk.injEq] at h0
    obtain ⟨⟨rfl, _⟩, _⟩ := h0
    have hadd : (⟨g, 0, none⟩ : Addr).add j = ⟨g, j, none⟩ := by unfold Addr.add; split <;> simp_all
    rw [hadd]
    exact hcell j u hu
/-- What an append leaves of the data. -/
theorem Data.app {a w w2 : World} {v : Value} {xs ys : List Nat} {o : Obj} {g cap n : Nat} (ha : Chg [] a w) (hd : Data a w v xs) (ho2 : w2.ownsRow 0 5 1 (.slice (some ⟨g, 0, none⟩) n cap) n ((xs ++ ys).map vU8)) (hn : n = (xs ++ ys).length)
    (hg2 : (w.alloc o).grownBy w2 v.ownBlock) (hat2 : v.ownBlock = some g ∨ g = (w.alloc o).heap.size) : Chg [] a w2 ∧ Data a w2 (.slice (some ⟨g, 0, none⟩) n cap) (xs ++ ys) := by
  have hz := ha.size
  refine ⟨(ha.alloc o).grown hg2 (fun g hg => .inr (hd.2 g hg)), ?_, fun g' hg' => ?_⟩
  · unfold Own
    rw [List.length_map, ← hn]
    exact ho2
  · simp [Value.ownBlock] at hg'
    subst hg'
    rcases hat2 with e | e
    · exact hd.2 _ e
    · simp at e; omega

theorem Data.app2 {a w w2 : World} {v : Value} {xs ys : List Nat} {g cap n : Nat} (ha : Chg [] a w) (hd : Data a w v xs) (ho2 : w2.ownsRow 0 5 1 (.slice (some ⟨g, 0, none⟩) n cap) n ((xs ++ ys).map vU8)) (hn : n = (xs ++ ys).length)
    (hg2 : w.grownBy w2 v.ownBlock) (hat2 : v.ownBlock = some g ∨ g = w.heap.size) : Chg [] a w2 ∧ Data a w2 (.slice (some ⟨g, 0, none⟩) n cap) (xs ++ ys) := by
  have hz := ha.size
  refine ⟨ha.grown hg2 (fun g hg => .inr (hd.2 g hg)), ?_, fun g' hg' => ?_⟩
  · unfold Own
    rw [List.length_map, ← hn]
    exact ho2
  · simp [Value.ownBlock] at hg'
    subst hg'
    rcases hat2 with e | e
    · exact hd.2 _ e
    · omega

def MarOut (w : World) (bs : List Nat) (e : Ending) (w' : World) : Prop := ∃ v', e = .returned (.tuple #[v', .nilIface]) ∧ Chg [] w w' ∧ Data w w' v' bs

set_option maxHeartbeats 4000000 in
set_option maxRecDepth 100000 in
/-- (*Sketch).AppendBinary: a sparse sketch, no bytes ahead. -/
theorem marS_any (w : World) (b p : Nat) (F T L : List Nat) (h4 : 4 ≤ p) (h10 : p ≤ 10) (h : SkAt w b F p (.sparse T L)) (hT : T.length < 900000) (hL : (bytesOf L).length < 900000) :
    Calls Tryz.prog 37 #[.pointer (some ⟨b, 0, none⟩), .slice none 0 0] w (MarOut w (skBytes p (.sparse T L))) := by
  have hFl := h.lt
  obtain ⟨al, bt, Ft, bl, Fl, hb, hs, hl, hF, hFn⟩ := h
  have c0 := hb.cell 0
  have hlt := hb.lt
  simp at c0
  have hCP := Lib.hid (fun W => checkPrecision_any (p : Int) W (by omega) (by omega))
  have hB : ∀ W, Chg [] w W → W.cell? ⟨b, 0, none⟩ = some (.int .u8 (p : Int)) ∧ W.cell? ⟨b, 3, none⟩ = some (.pointer (some ⟨bt, 0, none⟩)) ∧ W.cell? ⟨b, 4, none⟩ = some (.pointer (some ⟨bl, 0, none⟩)) ∧ SetAt W bt Ft T ∧ ListAt W bl Fl L := fun W hW => by
    have h := hb.chg hW (by simp)
    have a0 := h.cell 0
    have a3 := h.cell 3
    have a4 := h.cell 4
    simp at a0 a3 a4
    exact ⟨a0, a3, a4, hs.chg hW (by simp), hl.chg hW (by simp)⟩
  have HB := Lib.hid hB
  have X := Lib.hid (And.intro hFl hF)
  have hd0 : Data w w (.slice none 0 0) [] := ⟨World.ownsRow_nil _ _ _ _, fun g hg => by simp [Value.ownBlock] at hg⟩
  have HD0 := Lib.hid hd0
  clear hFl hb hs hl hF hFn hB hd0
  go_enter Tryz.func37, Tryz.ntmps37
  go_wp2_with fail
  refine (hCP.out _).mono ?_
  rintro e w' ⟨rfl, rfl⟩
  go_wp2_with (first
    | (at_builtin; refine wpApp A22 _ rfl _ _ rfl (.slice none 0 0) 0 [] rfl (World.ownsRow_nil _ _ _ _) ⟨w.heap.size, 0, none⟩ 1 1 [.int .u8 2] rfl rfl (cell_one_new _ _ _) (by simp [Value.oneCell']) (by omega) (by omega) (by omega) ?_; intro g1 cap1 w1 ho1 hg1 hat1 _; have D1 := Lib.hid (Data.app (ys := [2]) (n := 1) (Chg.refl [] w) HD0.out ho1 rfl hg1 hat1); obtain ⟨c01, _, _, _, _⟩ := HB.out w1 D1.out.1; clear ho1 hg1 hat1)
    | (at_builtin; refine wpApp A22 _ rfl _ _ rfl (.slice (some ⟨g1, 0, none⟩) 1 cap1) 1 ([2].map vU8) rfl (D1.out.2.1.alloc _) ⟨w1.heap.size, 0, none⟩ 1 1 [.int .u8 (p : Int)] rfl rfl (cell_one_new _ _ _) (by simp [Value.oneCell']) (by omega) (by omega) (by omega) ?_; intro g2 cap2 w2 ho2 hg2 hat2 _; have D2 := Lib.hid (Data.app (ys := [p]) (n := 2) D1.out.1 D1.out.2 ho2 rfl hg2 hat2); clear ho2 hg2 hat2)
    | (at_builtin; refine wpApp A22 _ rfl _ _ rfl (.slice (some ⟨g2, 0, none⟩) 2 cap2) 2 ([2, p].map vU8) rfl (D2.out.2.1.alloc _) ⟨w2.heap.size, 0, none⟩ 1 1 [.int .u8 0] rfl rfl (cell_one_new _ _ _) (by simp [Value.oneCell']) (by omega) (by omega) (by omega) ?_; intro g3 cap3 w3 ho3 hg3 hat3 _; have D3 := Lib.hid (Data.app (ys := [0]) (n := 3) D2.out.1 D2.out.2 ho3 rfl hg3 hat3); clear ho3 hg3 hat3))
  obtain ⟨_, _, c43, _, _⟩ := HB.out w3 D3.out.1
  refine (sparse_any w3 b (some ⟨bl, 0, none⟩) c43).mono ?_
  rintro e w' ⟨rfl, rfl⟩
  simp only [Option.isSome_some]
  clear c0 c01 c43
  go_wp2_with (at_builtin; refine wpApp A22 _ rfl _ _ rfl (.slice (some ⟨g3, 0, none⟩) 3 cap3) 3 ([2, p, 0].map vU8) rfl (D3.out.2.1.alloc _) ⟨w3.heap.size, 0, none⟩ 1 1 [.int .u8 1] rfl rfl (cell_one_new _ _ _) (by simp [Value.oneCell']) (by omega) (by omega) (by omega) ?_; intro g4 cap4 w4 ho4 hg4 hat4 _; have D4 := Lib.hid (Data.app (ys := [1]) (n := 4) D3.out.1 D3.out.2 ho4 rfl hg4 hat4); clear ho4 hg4 hat4)
  obtain ⟨_, c34, _, hs4, _⟩ := HB.out w4 D4.out.1
  refine (sappend_any w w4 b bt Ft T _ [2, p, 0, 1] D4.out.1 D4.out.2 hs4 (fun k hk => X.out.1 k (by rw [X.out.2]; simp [hk])) c34 hlt (by omega) (by simp)).mono ?_
  rintro e w5 ⟨v5, rfl, hc5, hd5⟩
  have D5 := Lib.hid (And.intro hc5 hd5)
  obtain ⟨_, _, c45, _, _⟩ := HB.out w5 hc5
  clear hc5 hd5 hs4 c34
  go_wp2_with fail
  obtain ⟨_, _, _, _, hl5⟩ := HB.out w5 D5.out.1
  have hlen : ([2, p, 0, 1] ++ be32 T.length ++ be32s T).length < 90000000 := by
    have := be32s_len T
    simp only [List.length_append, show (be32 T.length).length = 4 from rfl, List.length_cons, List.length_nil]
    omega
  refine (lbytes_any w w5 bl Fl L v5 _ D5.out.1 D5.out.2 hl5 (fun k hk => X.out.1 k (by rw [X.out.2]; simp [hk])) hlen (by omega)).mono ?_
  rintro e w6 ⟨v6, rfl, hc6, hd6⟩
  have D6 := Lib.hid (And.intro hc6 hd6)
  clear hc6 hd6 hl5 hlen c45
  go_wp2_with fail
  go_ret2
  exact ⟨v6, rfl, D6.out.1, D6.out.2⟩

set_option maxHeartbeats 4000000 in
set_option maxRecDepth 100000 in
/-- (*Sketch).AppendBinary: a dense sketch, no bytes ahead. -/
theorem marD_any (w : World) (b p : Nat) (F R : List Nat) (h4 : 4 ≤ p) (h10 : p ≤ 10) (h : SkAt w b F p (.dense R)) :
    Calls Tryz.prog 37 #[.pointer (some ⟨b, 0, none⟩), .slice none 0 0] w (MarOut w (skBytes p (.dense R))) := by
  have hFl := h.lt
  obtain ⟨al, v, hb, ho, hR, h256, hF, hFn⟩ := h
  have h2p : 2 ^ p ≤ 2 ^ 10 := Nat.pow_le_pow_right (by omega) h10
  have h2p0 := Nat.two_pow_pos p
  obtain ⟨g, cc, rfl⟩ : ∃ g c, v = .slice (some ⟨g, 0, none⟩) R.length c := by
    rcases own_form ho with ⟨_, h0, _⟩ | ⟨g, c, h0, _⟩
    · rw [List.length_map] at h0; omega
    · exact ⟨g, c, by simpa using h0⟩
  have ho' : w.ownsRow 0 5 1 (.slice (some ⟨g, 0, none⟩) R.length cc) R.length (R.map vU8) := by unfold Own at ho; rwa [List.length_map] at ho
  have c0 := hb.cell 0
  have hlt := hb.lt
  simp at c0
  have hM0 : 0 < R.length := by omega
  have hM1 : R.length ≤ 1024 := by omega
  obtain ⟨M, hM⟩ : ∃ M, M = R.length := ⟨_, rfl⟩
  rw [← hM] at ho' hM0 hM1
  have hCP := Lib.hid (fun W => checkPrecision_any (p : Int) W (by omega) (by omega))
  have hB : ∀ W, Chg [] w W → W.cell? ⟨b, 0, none⟩ = some (.int .u8 (p : Int)) ∧ W.cell? ⟨b, 4, none⟩ = some (.pointer none) ∧ W.cell? ⟨b, 5, none⟩ = some (.slice (some ⟨g, 0, none⟩) M cc) ∧ W.ownsRow 0 5 1 (.slice (some ⟨g, 0, none⟩) M cc) M (R.map vU8) := fun W hW => by
    have h := hb.chg hW (by simp)
    have a0 := h.cell 0
    have a4 := h.cell 4
    have a5 := h.cell 5
    simp at a0 a4 a5
    rw [← hM] at a5
    exact ⟨a0, a4, a5, own_agree ho' (fun g hg => hW.same (own_lt ho' hg) (by simp))⟩
  have HB := Lib.hid hB
  have hd0 : Data w w (.slice none 0 0) [] := ⟨World.ownsRow_nil _ _ _ _, fun g hg => by simp [Value.ownBlock] at hg⟩
  have HD0 := Lib.hid hd0
  have HM := Lib.hid hM
  clear hFl hb ho ho' hF hFn hB hd0 hR h256 h2p h2p0 hM
  go_enter Tryz.func37, Tryz.ntmps37
  go_wp2_with fail
  refine (hCP.out _).mono ?_
  rintro e w' ⟨rfl, rfl⟩
  go_wp2_with (first
    | (at_builtin; refine wpApp A22 _ rfl _ _ rfl (.slice none 0 0) 0 [] rfl (World.ownsRow_nil _ _ _ _) ⟨w.heap.size, 0, none⟩ 1 1 [.int .u8 2] rfl rfl (cell_one_new _ _ _) (by simp [Value.oneCell']) (by omega) (by omega) (by omega) ?_; intro g1 cap1 w1 ho1 hg1 hat1 _; have D1 := Lib.hid (Data.app (ys := [2]) (n := 1) (Chg.refl [] w) HD0.out ho1 rfl hg1 hat1); obtain ⟨c01, _, _, _⟩ := HB.out w1 D1.out.1; clear ho1 hg1 hat1)
    | (at_builtin; refine wpApp A22 _ rfl _ _ rfl (.slice (some ⟨g1, 0, none⟩) 1 cap1) 1 ([2].map vU8) rfl (D1.out.2.1.alloc _) ⟨w1.heap.size, 0, none⟩ 1 1 [.int .u8 (p : Int)] rfl rfl (cell_one_new _ _ _) (by simp [Value.oneCell']) (by omega) (by omega) (by omega) ?_; intro g2 cap2 w2 ho2 hg2 hat2 _; have D2 := Lib.hid (Data.app (ys := [p]) (n := 2) D1.out.1 D1.out.2 ho2 rfl hg2 hat2); clear ho2 hg2 hat2)
    | (at_builtin; refine wpApp A22 _ rfl _ _ rfl (.slice (some ⟨g2, 0, none⟩) 2 cap2) 2 ([2, p].map vU8) rfl (D2.out.2.1.alloc _) ⟨w2.heap.size, 0, none⟩ 1 1 [.int .u8 0] rfl rfl (cell_one_new _ _ _) (by simp [Value.oneCell']) (by omega) (by omega) (by omega) ?_; intro g3 cap3 w3 ho3 hg3 hat3 _; have D3 := Lib.hid (Data.app (ys := [0]) (n := 3) D2.out.1 D2.out.2 ho3 rfl hg3 hat3); clear ho3 hg3 hat3))
  obtain ⟨_, c43, c53, _⟩ := HB.out w3 D3.out.1
  refine (sparse_any w3 b none c43).mono ?_
  rintro e w' ⟨rfl, rfl⟩
  simp only [Option.isSome_none]
  clear c0 c01 c43 c53
  go_wp2_with (first
    | (at_builtin; refine wpApp A22 _ rfl _ _ rfl (.slice (some ⟨g3, 0, none⟩) 3 cap3) 3 ([2, p, 0].map vU8) rfl (D3.out.2.1.alloc _) ⟨w3.heap.size, 0, none⟩ 1 1 [.int .u8 0] rfl rfl (cell_one_new _ _ _) (by simp [Value.oneCell']) (by omega) (by omega) (by omega) ?_; intro g4 cap4 w4 ho4 hg4 hat4 _; have D4 := Lib.hid (Data.app (ys := [0]) (n := 4) D3.out.1 D3.out.2 ho4 rfl hg4 hat4); obtain ⟨_, _, c54, _⟩ := HB.out w4 D4.out.1; clear ho4 hg4 hat4)
    | (at_builtin; refine wpApp A22 _ rfl _ _ rfl (.slice (some ⟨g4, 0, none⟩) 4 cap4) 4 ([2, p, 0, 0].map vU8) rfl (D4.out.2.1.alloc _) ⟨w4.heap.size, 0, none⟩ 4 4 [.int .u8 (↑M / 16777216), .int .u8 (↑M / 65536), .int .u8 (↑M / 256), .int .u8 (↑M % 256)] rfl rfl (cells_new _ _ _) (by simp [Value.oneCell']) (by omega) (by omega) (by omega) ?_; intro g5 cap5 w5 ho5 hg5 hat5 _; have e5 : [Value.int .u8 (↑M / 16777216), .int .u8 (↑M / 65536), .int .u8 (↑M / 256), .int .u8 (↑M % 256)] = (be32 M).map vU8 := (by simp only [be32, List.map_cons, List.map_nil, vU8, Int.natCast_emod, Int.natCast_ediv]; rw [show ((M : Int) / (16777216 : Nat) % (256 : Nat)) = (M : Int) / 16777216 by omega, show ((M : Int) / (65536 : Nat) % (256 : Nat)) = (M : Int) / 65536 by omega, show ((M : Int) / (256 : Nat) % (256 : Nat)) = (M : Int) / 256 by omega]; rfl); rw [e5] at ho5; have D5 := Lib.hid (Data.app (ys := be32 M) (n := 8) D4.out.1 D4.out.2 (by rw [List.map_append]; exact ho5) rfl hg5 hat5); obtain ⟨_, _, c55, hr5⟩ := HB.out w5 D5.out.1; have HR5 := Lib.hid hr5; clear ho5 hg5 hat5 hr5 e5 c54)
    | (at_builtin; (refine wpApp A22 _ rfl _ _ rfl (.slice (some ⟨g5, 0, none⟩) 8 cap5) 8 (([2, p, 0, 0] ++ be32 M).map vU8) rfl D5.out.2.1 ⟨g, 0, none⟩ M cc (R.map vU8) rfl (by rw [List.length_map]; exact HM.out.symm) (row_cells HR5.out) (by intro u hu; obtain ⟨a, _, rfl⟩ := List.mem_map.1 hu; rfl) (by omega) (by omega) (by omega) ?_); intro g6 cap6 w6 ho6 hg6 hat6 _; have D6 := Lib.hid (Data.app2 (ys := R) (n := 8 + M) D5.out.1 D5.out.2 (by rw [List.map_append]; exact ho6) (by rw [List.length_append, HM.out]; rfl) hg6 hat6); clear ho6 hg6 hat6))
  go_ret2
  refine ⟨.slice (some ⟨g6, 0, none⟩) (8 + M) cap6, rfl, D6.out.1, ?_⟩
  have := D6.out.2
  show Data w w6 _ ([2, p, 0, 0] ++ be32 R.length ++ R)
  rw [← HM.out]
  exact this
/-- (*Sketch).AppendBinary, nothing ahead. -/
theorem mar37_any (w : World) (b p : Nat) (F : List Nat) (rep : Rep) (H : Nat → Prop) (h4 : 4 ≤ p) (h10 : p ≤ 10) (h : SkAt w b F p rep) (hsay : Says p H rep) : Calls Tryz.prog 37 #[.pointer (some ⟨b, 0, none⟩), .slice none 0 0] w (MarOut w (skBytes p rep)) := by
  have h2p : 2 ^ p ≤ 2 ^ 10 := Nat.pow_le_pow_right (by omega) h10
  cases rep with
  | sparse T L => exact marS_any w b p F T L h4 h10 h (by have := hsay.2.1; omega) (by have := hsay.2.2.1; omega)
  | dense R => exact marD_any w b p F R h4 h10 h
set_option maxHeartbeats 400000 in
set_option maxRecDepth 100000 in
/-- (*Sketch).MarshalBinary. -/
theorem mar_any (w : World) (b p : Nat) (F : List Nat) (rep : Rep) (H : Nat → Prop) (h4 : 4 ≤ p) (h10 : p ≤ 10) (h : SkAt w b F p rep) (hsay : Says p H rep) : Calls Tryz.prog 15 #[.pointer (some ⟨b, 0, none⟩)] w (MarOut w (skBytes p rep)) := by
  have HH := Lib.hid (mar37_any w b p F rep H h4 h10 h hsay)
  clear h hsay
  go_enter Tryz.func15, Tryz.ntmps15
  go_wp2_with fail
  refine HH.out.mono ?_
  rintro e w2 ⟨v, rfl, h1, h2⟩
  have Z := Lib.hid (And.intro h1 h2)
  clear h1 h2
  go_wp2_with fail
  go_ret2
  exact ⟨v, rfl, Z.out.1, Z.out.2⟩
end Go.Proofs.YtgoliddhhichgaaGreatDoor
