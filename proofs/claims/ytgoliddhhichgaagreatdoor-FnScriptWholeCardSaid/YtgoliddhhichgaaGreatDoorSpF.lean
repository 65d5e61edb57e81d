/- The walk of spec.Play. -/
import Derived.Test.YtgoliddhhichgaaGreatDoorSpE
import Derived.Test.YtgoliddhhichgaaGreatDoorLast
import Derived.Test.YtgoliddhhichgaaGreatDoorStp
import Derived.Deep.RegionLaw
import Derived.Deep.CutBlock
namespace Go.Proofs.YtgoliddhhichgaaGreatDoor
open Go.RowKit Pl

/-- What Play hands back. -/
def PsOut (w : World) (L : List St) (e : Ending) (w' : World) : Prop :=
  ∃ (V : Nat → Value) (LL : Nat → List Nat), e = .returned (.agg (arr3 V)) ∧ (∀ i, i < 3 → w'.ownsRow 0 38 1 (V i) (LL i).length ((LL i).map vU64)) ∧ (∀ i, i < 3 → (LL i).length ≤ 1000000) ∧ (∀ i, i < 3 → ∀ x, x ∈ LL i → x < 18446744073709551616) ∧ (∀ i, i < 3 → ∀ x, x ∈ LL i ↔ playH L i x) ∧ Chg [] w w'

theorem s_cells {W : World} {sx b k x y h i : Nat} {V : Nat → Value} {u : Value} (hb : Blk W sx 40 #[.int .i64 (k : Int), .int .i64 (x : Int), .int .i64 (y : Int), .int .u64 (h : Int)]) (ha : Blk W b 30 (arr3 V)) (hi : i < 3) (hV : V i = u) :
    W.cell? ⟨sx, 1, none⟩ = some (.int .i64 (x : Int)) ∧ W.cell? ⟨sx, 2, none⟩ = some (.int .i64 (y : Int)) ∧ W.cell? ⟨sx, 3, none⟩ = some (.int .u64 (h : Int)) ∧ W.cell? ⟨b, i, none⟩ = some u := by
  refine ⟨by simpa using hb.cell 1, by simpa using hb.cell 2, by simpa using hb.cell 3, ?_⟩
  rw [ha.cell i, arr3_get V hi, hV]

set_option maxHeartbeats 4000000 in
set_option maxRecDepth 100000 in
/-- spec.Play. -/
theorem playS_any (w : World) (A : Option Addr) (n c : Nat) (L : List St) (h : w.ownsRow 0 40 4 (.slice A n c) n (L.flatMap stc)) (hn : n = L.length) (hn1 : n ≤ 5120) (hL : ∀ s, s ∈ L → GoodSt s) :
    Calls Tryz.prog 6 #[.slice A n c] w (PsOut w L) := by
  have KL := Lib.hid (steps_at h hn)
  have X := Lib.hid (And.intro hn hL)
  clear h hn hL
  go_enter Tryz.func6, Tryz.ntmps6
  go_wp2_with fail
  have A0 : Hid (PSt w ((w.alloc (.cells (arr3 fun _ => .slice none 0 0) 30)).alloc (.cells (arr3 fun _ => .slice none 0 0) 30)) w.heap.size (w.heap.size + 1) (fun _ => .slice none 0 0) (fun _ => []) 0 [] (playH [])) := Lib.hid
    ⟨alloc_new' (w.alloc _) _ _ (by simp), fun i _ => ⟨rfl, .inl ⟨rfl, rfl⟩⟩, (fun i _ g hg => by cases hg), (fun i j _ _ _ g hg => by cases hg), fun i _ => by simp, (fun i _ x hx => by cases hx), fun i _ x => by simp [playH], ((Chg.refl _ _).alloc _).alloc _, by omega, (Blk.new w 30 _).alloc _, by omega, Nat.le_refl _⟩
  generalize (w.alloc (.cells (arr3 fun _ => .slice none 0 0) 30)).alloc (.cells (arr3 fun _ => .slice none 0 0) 30) = w0 at A0 ⊢
  generalize hb3 : w.heap.size + 1 = b3 at A0 ⊢
  generalize w.heap.size = b2 at A0 ⊢
  go_loopw [8] (fun s8 wr => ∃ (i : Nat) (V : Nat → Value) (LL : Nat → List Nat), s8 = .int .i64 (i : Int) ∧ i ≤ n ∧ Hid (PSt w wr b2 b3 V LL (20000 + i) ((L.take i).map St.hash) (playH (L.take i)))) (fun s8 _ => n - (intOf s8).toNat)
  case atStart =>
    exact ⟨0, _, _, rfl, by omega, Lib.hid (A0.out.mono (by omega) (by simp))⟩
  case round =>
    obtain ⟨i, V, LL, rfl, hi, hI⟩ := hrel
    by_cases hlt : i < n
    · have hiL : i < L.length := by rw [← X.out.1]; exact hlt
      obtain ⟨s, hs⟩ : ∃ s, L[i]? = some s := ⟨_, List.getElem?_eq_getElem hiL⟩
      obtain ⟨hk4, hx3, hy3, hxy, hh64⟩ := X.out.2 s (List.mem_of_getElem? hs)
      obtain ⟨k, x, y, hsh⟩ := s
      simp only at hk4 hx3 hy3 hxy hh64
      obtain ⟨g, rfl, KG⟩ := KL.out wr hI.out.chg i _ hs
      have e0 : wr.cell? ⟨g, i * 4, none⟩ = some (.int .i64 (k : Int)) := KG 0 _ rfl (by omega)
      have e1 : wr.cell? ⟨g, i * 4 + 1, none⟩ = some (.int .i64 (x : Int)) := KG 1 _ rfl (by omega)
      have e2 : wr.cell? ⟨g, i * 4 + 2, none⟩ = some (.int .i64 (y : Int)) := KG 2 _ rfl (by omega)
      have e3 : wr.cell? ⟨g, i * 4 + 3, none⟩ = some (.int .u64 (hsh : Int)) := KG 3 _ rfl (by omega)
      have HT := Lib.hid (And.intro hs hiL)
      clear hs hiL KG
      have HP1 : Hid (PSt w (wr.alloc (.cells #[.int .i64 (k : Int), .int .i64 (x : Int), .int .i64 (y : Int), .int .u64 (hsh : Int)] 40)) b2 b3 V LL (20000 + i) ((L.take i).map St.hash) (playH (L.take i)) ∧ Blk (wr.alloc (.cells #[.int .i64 (k : Int), .int .i64 (x : Int), .int .i64 (y : Int), .int .u64 (hsh : Int)] 40)) wr.heap.size 40 #[.int .i64 (k : Int), .int .i64 (x : Int), .int .i64 (y : Int), .int .u64 (hsh : Int)]) := Lib.hid ⟨hI.out.chg' ((Chg.refl _ _).alloc _), Blk.new _ _ _⟩
      go_upto_block 2 with fail
      clear e0 e1 e2 e3
      generalize wr.alloc (.cells #[.int .i64 (k : Int), .int .i64 (x : Int), .int .i64 (y : Int), .int .u64 (hsh : Int)] 40) = w1 at HP1 ⊢
      generalize wr.heap.size = sx at HP1 ⊢
      go_cut [8] from 8 to 74 (fun s8 wx => ∃ (V : Nat → Value) (LL : Nat → List Nat), s8 = .int .i64 (i : Int) ∧ Hid (PSt w wx b2 b3 V LL 60000 ((L.take (i + 1)).map St.hash) (playH (L.take (i + 1))) ∧ (∀ j, j < 3 → j ≠ y → (LL j).length ≤ 20000 + (i + 1)) ∧ Blk wx sx 40 #[.int .i64 (k : Int), .int .i64 (x : Int), .int .i64 (y : Int), .int .u64 (hsh : Int)]))
      case first =>
        obtain ⟨Ax, cx, hVx, _⟩ := own_slice (HP1.out.1.own x hx3)
        obtain ⟨nx, hnx⟩ : ∃ nx, nx = (LL x).length := ⟨_, rfl⟩
        have hnx1 : nx ≤ 30000 := by have := HP1.out.1.small x hx3; have := X.out.1; omega
        have ca := HP1.out.1.blk.cell x
        rw [arr3_get V hx3, hVx, ← hnx] at ca
        have fa := HP1.out.1.blk.frozen x
        have d1 := HP1.out.2.cell 1
        have d2 := HP1.out.2.cell 2
        have d3 := HP1.out.2.cell 3
        simp at d1 d2 d3
        have HVx : Hid (V x = .slice Ax nx cx ∧ nx = (LL x).length) := Lib.hid ⟨by rw [hVx, hnx], hnx⟩
        have SK : Hid (∀ (t : Nat) (W : World), t < 3 → Chg (V t).ownBlock.toList w1 W → Blk W sx 40 #[.int .i64 (k : Int), .int .i64 (x : Int), .int .i64 (y : Int), .int .u64 (hsh : Int)] ∧ Blk W b3 30 (arr3 V)) := Lib.hid fun t W ht hc =>
          ⟨HP1.out.2.chg hc (fun hm => own_ne (HP1.out.1.own t ht) HP1.out.2 (by decide) (by simpa using hm)), HP1.out.1.blk.chg hc (fun hm => HP1.out.1.far ht (by simpa using hm))⟩
        clear hVx hnx
        have bx : (0 : Int) ≤ (x : Int) := by omega
        have bx2 : (x : Int) < 3 := by omega
        have by_ : (0 : Int) ≤ (y : Int) := by omega
        have by2 : (y : Int) < 3 := by omega
        rcases (show k = 0 ∨ k = 1 ∨ k = 2 ∨ k = 3 ∨ k = 4 by omega) with rfl | rfl | rfl | rfl | rfl
        · go_upto_region 7 with fail
          refine wp_region_last' (fun w' => w'.cell? ⟨sx, 1, none⟩ = some (.int .i64 (x : Int)) ∧ w'.cell? ⟨sx, 3, none⟩ = some (.int .u64 (hsh : Int)) ∧ w'.cell? ⟨b3, x, none⟩ = some (.slice Ax nx cx)) 11 (by kernel_rfl) (by kernel_rfl) ⟨d1, d3, ca⟩ (fun K hK hHeld => ?_)
          simp only [List.take_succ_cons, List.take_zero, List.drop_succ_cons, List.drop_zero] at hK ⊢
          refine take_at 0 16 rfl rfl (by kernel_rfl) (by kernel_rfl) (by kernel_rfl) (fun _ _ _ h => h) (Or.inl ⟨by rfl, by intro w' hSw; (try dsimp only at hSw); go_simp; try (with_reducible rfl)⟩) (by assumption) ?_
          simp only [Act.put, List.setIfInBounds_toArray, List.set_cons_zero, List.set_cons_succ]
          refine take_at 1 17 rfl rfl (by kernel_rfl) (by kernel_rfl) (by kernel_rfl) (fun _ _ _ h => h) (Or.inl ⟨by rfl, by intro w' hSw; (try dsimp only at hSw); go_simp; try (with_reducible rfl)⟩) (by assumption) ?_
          simp only [Act.put, List.setIfInBounds_toArray, List.set_cons_zero, List.set_cons_succ]
          refine take_at 2 18 rfl rfl (by kernel_rfl) (by kernel_rfl) (by kernel_rfl) (fun _ _ _ h => h) (Or.inl ⟨by rfl, by intro w' hSw; (try dsimp only at hSw); go_simp; try (with_reducible rfl)⟩) (by assumption) ?_
          simp only [Act.put, List.setIfInBounds_toArray, List.set_cons_zero, List.set_cons_succ]
          refine take_at 3 19 rfl rfl (by kernel_rfl) (by kernel_rfl) (by kernel_rfl) (fun _ _ _ h => h) (Or.inl ⟨by rfl, by intro w' hSw; (try dsimp only at hSw); go_simp; try (with_reducible rfl)⟩) (by assumption) ?_
          simp only [Act.put, List.setIfInBounds_toArray, List.set_cons_zero, List.set_cons_succ]
          refine take_at 4 20 rfl rfl (by kernel_rfl) (by kernel_rfl) (by kernel_rfl) (fun _ _ _ h => h) (Or.inl ⟨by rfl, by intro w' hSw; (try dsimp only at hSw); go_simp; try (with_reducible rfl)⟩) (by assumption) ?_
          simp only [Act.put, List.setIfInBounds_toArray, List.set_cons_zero, List.set_cons_succ]
          refine take_at 5 21 rfl rfl (by kernel_rfl) (by kernel_rfl) (by kernel_rfl) (fun _ _ _ h => h) (Or.inl ⟨by rfl, by intro w' hSw; (try dsimp only at hSw); go_simp; try (with_reducible rfl)⟩) (by assumption) ?_
          simp only [Act.put, List.setIfInBounds_toArray, List.set_cons_zero, List.set_cons_succ]
          refine take_at 6 22 rfl rfl (by kernel_rfl) (by kernel_rfl) (by kernel_rfl) (fun _ _ _ h => h) (Or.inl ⟨by rfl, by intro w' hSw; (try dsimp only at hSw); go_simp; try (with_reducible rfl)⟩) (by assumption) ?_
          simp only [Act.put, List.setIfInBounds_toArray, List.set_cons_zero, List.set_cons_succ]
          refine take_at 7 23 rfl rfl (by kernel_rfl) (by kernel_rfl) (by kernel_rfl) (fun _ _ _ h => h) (Or.inl ⟨by rfl, by intro w' hSw; (try dsimp only at hSw); go_simp; try (with_reducible rfl)⟩) (by assumption) ?_
          simp only [Act.put, List.setIfInBounds_toArray, List.set_cons_zero, List.set_cons_succ]
          -- buildSlice
          refine wpAnyH_ready (rs := [8]) (by kernel_rfl) (by simp) ?_
          refine AllReadyH.cons rfl (fun K' hK' => ?_) AllReadyH.nil
          go_simp
          refine hK'.out _ _ ?_ (fun hHeld => ?_)
          · obtain ⟨hbx, hba⟩ := SK.out x (w1.alloc (.cells #[.int .u64 (hsh : Int)] 38)).drew hx3 ((Chg.refl _ w1).alloc _).drew
            have h := s_cells hbx hba hx3 HVx.out.1
            exact ⟨h.1, h.2.2.1, h.2.2.2⟩
          try simp only [Act.put, List.setIfInBounds_toArray, List.set_cons_zero, List.set_cons_succ]
          have HO : Hid ((w1.alloc (.cells #[.int .u64 (hsh : Int)] 38)).drew.ownsRow 0 38 1 (.slice Ax nx cx) nx ((LL x).map vU64) ∧ (w1.alloc (.cells #[.int .u64 (hsh : Int)] 38)).drew.ownsRow 0 38 1 (.slice (some ⟨w1.heap.size, 0, none⟩) 1 1) 1 [vU64 hsh]) := by
            have h1 := HP1.out.1.own x hx3
            rw [HVx.out.1, ← HVx.out.2] at h1
            exact Lib.hid ⟨own_agree h1 (fun q hq => Below.heap_alloc _ _ _ (own_lt h1 hq)), rowOfBlk (Blk.new w1 38 #[.int .u64 (hsh : Int)]) rfl (by unfold maxLen; omega)⟩
          refine wpAnyH_ready (rs := [9]) (by kernel_rfl) (by simp) ?_
          refine AllReadyH.cons rfl (fun K' hK' => ?_) AllReadyH.nil
          refine step_app_any A29 25 rfl rfl _ _ rfl (.slice Ax nx cx) nx ((LL x).map vU64) (by rfl) HO.out.1 (some ⟨w1.heap.size, 0, none⟩) 1 1 [vU64 hsh] (by rfl) HO.out.2 (vU64_one [hsh]) (by omega) (by omega) ?_
          intro A2 c2 w2 ho2 hg2 hb2
          have HC2 : Hid (Chg (V x).ownBlock.toList w1 w2) := by
            have h1 : Chg (V x).ownBlock.toList w1 (w1.alloc (.cells #[.int .u64 (hsh : Int)] 38)).drew := ((Chg.refl _ _).alloc _).drew
            exact Lib.hid (h1.grown hg2 (fun q hq => .inl (by rw [HVx.out.1, hq]; simp)))
          have W := Lib.hid (And.intro ho2 hb2)
          clear ho2 hb2 hg2
          refine hK'.out _ _ ?_ (fun hHeld => ?_)
          · obtain ⟨hbx, hba⟩ := SK.out x w2 hx3 HC2.out
            have h := s_cells hbx hba hx3 HVx.out.1
            exact ⟨h.1, h.2.2.1, h.2.2.2⟩
          try simp only [Act.put, List.setIfInBounds_toArray, List.set_cons_zero, List.set_cons_succ]
          refine take_at 10 26 rfl rfl (by kernel_rfl) (by kernel_rfl) (by kernel_rfl) (fun _ _ _ h => h) (Or.inl ⟨by rfl, by intro w' hSw; (try dsimp only at hSw); go_simp; try (with_reducible rfl)⟩) (by assumption) ?_
          simp only [Act.put, List.setIfInBounds_toArray, List.set_cons_zero, List.set_cons_succ]
          refine wpAnyH_done (by kernel_rfl) ?_ _
          refine hK _ _ ?_
          have ca2 := hHeld.2.2
          have fa2 := (SK.out x w2 hx3 HC2.out).2.frozen x
          go_wp2_with fail
          go_meet
          case rel =>
            obtain ⟨ho2, hb2⟩ := W.out
            have hn := HVx.out.2
            refine ⟨_, _, rfl, Lib.hid (ps_step (L' := LL x ++ [hsh]) HP1.out.1 HP1.out.2 hx3 (by have := X.out.1; omega) HT.out.1 HC2.out (fun q hq => by simpa using hq) (by rw [List.map_append]; exact ho2) (fun q hq => ?_) (by rw [List.length_append, ← hn]; simp; omega) (fun z hz => ?_) (fun j hj z => ?_) (.inr ?_))⟩
            · rw [HVx.out.1]
              rcases hb2 q hq with h1 | h1
              · exact .inl h1
              · right; simp at h1; omega
            · rcases List.mem_append.1 hz with h1 | h1
              · exact .inl (HP1.out.1.sub x hx3 z h1)
              · exact .inr (by simpa using h1)
            · have h1 := HP1.out.1.says x hx3 z
              by_cases hjx : j = x
              · subst hjx
                simp [stepH, h1]
              · simp [stepH, hjx]
            · have := HP1.out.1.small x hx3
              rw [List.length_append]; simp; omega
        · go_upto_region 9 with fail
          obtain ⟨Ay, cy, hVy, _⟩ := own_slice (HP1.out.1.own y hy3)
          obtain ⟨ny, hny⟩ : ∃ ny, ny = (LL y).length := ⟨_, rfl⟩
          have hny1 : ny ≤ 30000 := by have := HP1.out.1.small y hy3; have := X.out.1; omega
          have cb := HP1.out.1.blk.cell y
          rw [arr3_get V hy3, hVy, ← hny] at cb
          have HVy : Hid (V y = .slice Ay ny cy ∧ ny = (LL y).length) := Lib.hid ⟨by rw [hVy, hny], hny⟩
          clear hVy hny
          refine wp_region_last' (fun w' => w'.cell? ⟨sx, 1, none⟩ = some (.int .i64 (x : Int)) ∧ w'.cell? ⟨sx, 2, none⟩ = some (.int .i64 (y : Int)) ∧ w'.cell? ⟨b3, x, none⟩ = some (.slice Ax nx cx) ∧ w'.cell? ⟨b3, y, none⟩ = some (.slice Ay ny cy)) 14 (by kernel_rfl) (by kernel_rfl) ⟨d1, d2, ca, cb⟩ (fun K hK hHeld => ?_)
          simp only [List.take_succ_cons, List.take_zero, List.drop_succ_cons, List.drop_zero] at hK ⊢
          refine take_at 0 29 rfl rfl (by kernel_rfl) (by kernel_rfl) (by kernel_rfl) (fun _ _ _ h => h) (Or.inl ⟨by rfl, by intro w' hSw; (try dsimp only at hSw); go_simp; try (with_reducible rfl)⟩) (by assumption) ?_
          simp only [Act.put, List.setIfInBounds_toArray, List.set_cons_zero, List.set_cons_succ]
          refine take_at 1 30 rfl rfl (by kernel_rfl) (by kernel_rfl) (by kernel_rfl) (fun _ _ _ h => h) (Or.inl ⟨by rfl, by intro w' hSw; (try dsimp only at hSw); go_simp; try (with_reducible rfl)⟩) (by assumption) ?_
          simp only [Act.put, List.setIfInBounds_toArray, List.set_cons_zero, List.set_cons_succ]
          refine take_at 3 32 rfl rfl (by kernel_rfl) (by kernel_rfl) (by kernel_rfl) (fun _ _ _ h => h) (Or.inl ⟨by rfl, by intro w' hSw; (try dsimp only at hSw); go_simp; try (with_reducible rfl)⟩) (by assumption) ?_
          simp only [Act.put, List.setIfInBounds_toArray, List.set_cons_zero, List.set_cons_succ]
          refine take_at 4 33 rfl rfl (by kernel_rfl) (by kernel_rfl) (by kernel_rfl) (fun _ _ _ h => h) (Or.inl ⟨by rfl, by intro w' hSw; (try dsimp only at hSw); go_simp; try (with_reducible rfl)⟩) (by assumption) ?_
          simp only [Act.put, List.setIfInBounds_toArray, List.set_cons_zero, List.set_cons_succ]
          refine take_at 5 34 rfl rfl (by kernel_rfl) (by kernel_rfl) (by kernel_rfl) (fun _ _ _ h => h) (Or.inl ⟨by rfl, by intro w' hSw; (try dsimp only at hSw); go_simp; try (with_reducible rfl)⟩) (by assumption) ?_
          simp only [Act.put, List.setIfInBounds_toArray, List.set_cons_zero, List.set_cons_succ]
          refine take_at 6 35 rfl rfl (by kernel_rfl) (by kernel_rfl) (by kernel_rfl) (fun _ _ _ h => h) (Or.inl ⟨by rfl, by intro w' hSw; (try dsimp only at hSw); go_simp; try (with_reducible rfl)⟩) (by assumption) ?_
          simp only [Act.put, List.setIfInBounds_toArray, List.set_cons_zero, List.set_cons_succ]
          refine take_at 8 37 rfl rfl (by kernel_rfl) (by kernel_rfl) (by kernel_rfl) (fun _ _ _ h => h) (Or.inl ⟨by rfl, by intro w' hSw; (try dsimp only at hSw); go_simp; try (with_reducible rfl)⟩) (by assumption) ?_
          simp only [Act.put, List.setIfInBounds_toArray, List.set_cons_zero, List.set_cons_succ]
          refine take_at 9 38 rfl rfl (by kernel_rfl) (by kernel_rfl) (by kernel_rfl) (fun _ _ _ h => h) (Or.inl ⟨by rfl, by intro w' hSw; (try dsimp only at hSw); go_simp; try (with_reducible rfl)⟩) (by assumption) ?_
          simp only [Act.put, List.setIfInBounds_toArray, List.set_cons_zero, List.set_cons_succ]
          refine take_at 10 39 rfl rfl (by kernel_rfl) (by kernel_rfl) (by kernel_rfl) (fun _ _ _ h => h) (Or.inl ⟨by rfl, by intro w' hSw; (try dsimp only at hSw); go_simp; try (with_reducible rfl)⟩) (by assumption) ?_
          simp only [Act.put, List.setIfInBounds_toArray, List.set_cons_zero, List.set_cons_succ]
          refine take_at 11 40 rfl rfl (by kernel_rfl) (by kernel_rfl) (by kernel_rfl) (fun _ _ _ h => h) (Or.inl ⟨by rfl, by intro w' hSw; (try dsimp only at hSw); go_simp; try (with_reducible rfl)⟩) (by assumption) ?_
          simp only [Act.put, List.setIfInBounds_toArray, List.set_cons_zero, List.set_cons_succ]
          refine wpAnyH_ready (rs := [2]) (by kernel_rfl) (by simp) ?_
          refine AllReadyH.cons rfl (fun K' hK' => ?_) AllReadyH.nil
          go_simp
          refine hK'.out _ _ ?_ (fun hHeld => ?_)
          · obtain ⟨hbx, hba⟩ := SK.out x (w1.alloc (.cells #[] 38)).drew hx3 ((Chg.refl _ w1).alloc _).drew
            have h := s_cells hbx hba hx3 HVx.out.1
            exact ⟨h.1, h.2.1, h.2.2.2, (s_cells hbx hba hy3 HVy.out.1).2.2.2⟩
          try simp only [Act.put, List.setIfInBounds_toArray, List.set_cons_zero, List.set_cons_succ]
          have HO : Hid ((w1.alloc (.cells #[] 38)).drew.ownsRow 0 38 1 (.slice (some ⟨w1.heap.size, 0, none⟩) 0 0) 0 [] ∧ (w1.alloc (.cells #[] 38)).drew.ownsRow 0 38 1 (.slice Ay ny cy) ny ((LL y).map vU64)) := by
            have h1 := HP1.out.1.own y hy3
            rw [HVy.out.1, ← HVy.out.2] at h1
            exact Lib.hid ⟨rowOfBlk (Blk.new w1 38 #[]) rfl (by unfold maxLen; omega), own_agree h1 (fun q hq => Below.heap_alloc _ _ _ (own_lt h1 hq))⟩
          refine wpAnyH_ready (rs := [7]) (by kernel_rfl) (by simp) ?_
          refine AllReadyH.cons rfl (fun K' hK' => ?_) AllReadyH.nil
          refine step_app_any A29 36 rfl rfl _ _ rfl (.slice (some ⟨w1.heap.size, 0, none⟩) 0 0) 0 [] (by rfl) HO.out.1 Ay ny cy ((LL y).map vU64) (by rfl) HO.out.2 (vU64_one (LL y)) (by omega) (by omega) ?_
          intro A2 c2 w2 ho2 hg2 hb2
          have HC2 : Hid (Chg [] w1 w2) := by
            have h1 : Chg [] w1 (w1.alloc (.cells #[] 38)).drew := ((Chg.refl _ _).alloc _).drew
            exact Lib.hid (h1.grown hg2 (fun q hq => .inr (by simp [Value.ownBlock] at hq; omega)))
          have W := Lib.hid (And.intro ho2 hb2)
          clear ho2 hb2 hg2
          refine hK'.out _ _ ?_ (fun hHeld => ?_)
          · obtain ⟨hbx, hba⟩ := SK.out x w2 hx3 (HC2.out.mono (by simp))
            have h := s_cells hbx hba hx3 HVx.out.1
            exact ⟨h.1, h.2.1, h.2.2.2, (s_cells hbx hba hy3 HVy.out.1).2.2.2⟩
          try simp only [Act.put, List.setIfInBounds_toArray, List.set_cons_zero, List.set_cons_succ]
          have HO2 : Hid (w2.ownsRow 0 38 1 (.slice Ax nx cx) nx ((LL x).map vU64)) := by
            have h1 := HP1.out.1.own x hx3
            rw [HVx.out.1, ← HVx.out.2] at h1
            exact Lib.hid (own_agree h1 (fun q hq => HC2.out.same (own_lt h1 hq) (by simp)))
          refine wpAnyH_ready (rs := [12]) (by kernel_rfl) (by simp) ?_
          refine AllReadyH.cons rfl (fun K' hK' => ?_) AllReadyH.nil
          refine step_app_any A29 41 rfl rfl _ _ rfl (.slice A2 (0 + ny) c2) (0 + ny) ([] ++ (LL y).map vU64) (by rfl) W.out.1 Ax nx cx ((LL x).map vU64) (by rfl) HO2.out (vU64_one (LL x)) (by omega) (by omega) ?_
          intro A4 c4 w4 ho4 hg4 hb4
          have HC4 : Hid (Chg [] w1 w4) := by
            refine Lib.hid (HC2.out.grown hg4 (fun q hq => .inr ?_))
            rcases W.out.2 q hq with h1 | h1
            · simp [Value.ownBlock] at h1; omega
            · simp at h1; omega
          have W4 := Lib.hid (And.intro ho4 hb4)
          clear ho4 hb4 hg4
          refine hK'.out _ _ ?_ (fun hHeld => ?_)
          · obtain ⟨hbx, hba⟩ := SK.out x w4 hx3 (HC4.out.mono (by simp))
            have h := s_cells hbx hba hx3 HVx.out.1
            exact ⟨h.1, h.2.1, h.2.2.2, (s_cells hbx hba hy3 HVy.out.1).2.2.2⟩
          try simp only [Act.put, List.setIfInBounds_toArray, List.set_cons_zero, List.set_cons_succ]
          refine take_at 13 42 rfl rfl (by kernel_rfl) (by kernel_rfl) (by kernel_rfl) (fun _ _ _ h => h) (Or.inl ⟨by rfl, by intro w' hSw; (try dsimp only at hSw); go_simp; try (with_reducible rfl)⟩) (by assumption) ?_
          simp only [Act.put, List.setIfInBounds_toArray, List.set_cons_zero, List.set_cons_succ]
          refine wpAnyH_done (by kernel_rfl) ?_ _
          refine hK _ _ ?_
          have ca2 := hHeld.2.2.2
          have fa2 := (SK.out x w4 hx3 (HC4.out.mono (by simp))).2.frozen y
          go_wp2_with fail
          go_meet
          case rel =>
            obtain ⟨ho4, hb4⟩ := W4.out
            have hz2 := HC2.out.size
            refine ⟨_, _, rfl, Lib.hid (ps_step (L' := LL y ++ LL x) HP1.out.1 HP1.out.2 hy3 (by have := X.out.1; omega) HT.out.1 HC4.out (fun q hq => by cases hq) (by rw [List.map_append]; simpa using ho4) (fun q hq => ?_) (by rw [List.length_append, ← HVx.out.2, ← HVy.out.2]; omega) (fun z hz => ?_) (fun j hj z => ?_) (.inl rfl))⟩
            · rcases hb4 q (by rw [← hq]; exact ownBlock_len _ _ _ _ _) with h1 | h1
              · rcases W.out.2 q h1 with h2 | h2
                · simp [Value.ownBlock] at h2; omega
                · right; simp at h2; omega
              · right; omega
            · rcases List.mem_append.1 hz with h1 | h1
              · exact .inl (HP1.out.1.sub y hy3 z h1)
              · exact .inl (HP1.out.1.sub x hx3 z h1)
            · have h1 := HP1.out.1.says x hx3 z
              have h2 := HP1.out.1.says y hy3 z
              by_cases hjy : j = y
              · subst hjy
                simp [stepH, h1, h2]
              · simp [stepH, hjy]
        · go_upto_region 12 with fail
          refine wp_region_last' (fun w' => w'.cell? ⟨sx, 1, none⟩ = some (.int .i64 (x : Int)) ∧ w'.cell? ⟨sx, 2, none⟩ = some (.int .i64 (y : Int)) ∧ w'.cell? ⟨b3, x, none⟩ = some (.slice Ax nx cx)) 9 (by kernel_rfl) (by kernel_rfl) ⟨d1, d2, ca⟩ (fun K hK hHeld => ?_)
          simp only [List.take_succ_cons, List.take_zero, List.drop_succ_cons, List.drop_zero] at hK ⊢
          refine take_at 0 46 rfl rfl (by kernel_rfl) (by kernel_rfl) (by kernel_rfl) (fun _ _ _ h => h) (Or.inl ⟨by rfl, by intro w' hSw; (try dsimp only at hSw); go_simp; try (with_reducible rfl)⟩) (by assumption) ?_
          simp only [Act.put, List.setIfInBounds_toArray, List.set_cons_zero, List.set_cons_succ]
          refine take_at 1 47 rfl rfl (by kernel_rfl) (by kernel_rfl) (by kernel_rfl) (fun _ _ _ h => h) (Or.inl ⟨by rfl, by intro w' hSw; (try dsimp only at hSw); go_simp; try (with_reducible rfl)⟩) (by assumption) ?_
          simp only [Act.put, List.setIfInBounds_toArray, List.set_cons_zero, List.set_cons_succ]
          refine take_at 3 49 rfl rfl (by kernel_rfl) (by kernel_rfl) (by kernel_rfl) (fun _ _ _ h => h) (Or.inl ⟨by rfl, by intro w' hSw; (try dsimp only at hSw); go_simp; try (with_reducible rfl)⟩) (by assumption) ?_
          simp only [Act.put, List.setIfInBounds_toArray, List.set_cons_zero, List.set_cons_succ]
          refine take_at 4 50 rfl rfl (by kernel_rfl) (by kernel_rfl) (by kernel_rfl) (fun _ _ _ h => h) (Or.inl ⟨by rfl, by intro w' hSw; (try dsimp only at hSw); go_simp; try (with_reducible rfl)⟩) (by assumption) ?_
          simp only [Act.put, List.setIfInBounds_toArray, List.set_cons_zero, List.set_cons_succ]
          refine take_at 5 51 rfl rfl (by kernel_rfl) (by kernel_rfl) (by kernel_rfl) (fun _ _ _ h => h) (Or.inl ⟨by rfl, by intro w' hSw; (try dsimp only at hSw); go_simp; try (with_reducible rfl)⟩) (by assumption) ?_
          simp only [Act.put, List.setIfInBounds_toArray, List.set_cons_zero, List.set_cons_succ]
          refine take_at 6 52 rfl rfl (by kernel_rfl) (by kernel_rfl) (by kernel_rfl) (fun _ _ _ h => h) (Or.inl ⟨by rfl, by intro w' hSw; (try dsimp only at hSw); go_simp; try (with_reducible rfl)⟩) (by assumption) ?_
          simp only [Act.put, List.setIfInBounds_toArray, List.set_cons_zero, List.set_cons_succ]
          refine wpAnyH_ready (rs := [2]) (by kernel_rfl) (by simp) ?_
          refine AllReadyH.cons rfl (fun K' hK' => ?_) AllReadyH.nil
          go_simp
          refine hK'.out _ _ ?_ (fun hHeld => ?_)
          · obtain ⟨hbx, hba⟩ := SK.out x (w1.alloc (.cells #[] 38)).drew hx3 ((Chg.refl _ w1).alloc _).drew
            have h := s_cells hbx hba hx3 HVx.out.1
            exact ⟨h.1, h.2.1, h.2.2.2⟩
          try simp only [Act.put, List.setIfInBounds_toArray, List.set_cons_zero, List.set_cons_succ]
          have HO : Hid ((w1.alloc (.cells #[] 38)).drew.ownsRow 0 38 1 (.slice (some ⟨w1.heap.size, 0, none⟩) 0 0) 0 [] ∧ (w1.alloc (.cells #[] 38)).drew.ownsRow 0 38 1 (.slice Ax nx cx) nx ((LL x).map vU64)) := by
            have h1 := HP1.out.1.own x hx3
            rw [HVx.out.1, ← HVx.out.2] at h1
            exact Lib.hid ⟨rowOfBlk (Blk.new w1 38 #[]) rfl (by unfold maxLen; omega), own_agree h1 (fun q hq => Below.heap_alloc _ _ _ (own_lt h1 hq))⟩
          refine wpAnyH_ready (rs := [7]) (by kernel_rfl) (by simp) ?_
          refine AllReadyH.cons rfl (fun K' hK' => ?_) AllReadyH.nil
          refine step_app_any A29 53 rfl rfl _ _ rfl (.slice (some ⟨w1.heap.size, 0, none⟩) 0 0) 0 [] (by rfl) HO.out.1 Ax nx cx ((LL x).map vU64) (by rfl) HO.out.2 (vU64_one (LL x)) (by omega) (by omega) ?_
          intro A2 c2 w2 ho2 hg2 hb2
          have HC2 : Hid (Chg [] w1 w2) := by
            have h1 : Chg [] w1 (w1.alloc (.cells #[] 38)).drew := ((Chg.refl _ _).alloc _).drew
            exact Lib.hid (h1.grown hg2 (fun q hq => .inr (by simp [Value.ownBlock] at hq; omega)))
          have W := Lib.hid (And.intro ho2 hb2)
          clear ho2 hb2 hg2
          refine hK'.out _ _ ?_ (fun hHeld => ?_)
          · obtain ⟨hbx, hba⟩ := SK.out x w2 hx3 (HC2.out.mono (by simp))
            have h := s_cells hbx hba hx3 HVx.out.1
            exact ⟨h.1, h.2.1, h.2.2.2⟩
          try simp only [Act.put, List.setIfInBounds_toArray, List.set_cons_zero, List.set_cons_succ]
          refine take_at 8 54 rfl rfl (by kernel_rfl) (by kernel_rfl) (by kernel_rfl) (fun _ _ _ h => h) (Or.inl ⟨by rfl, by intro w' hSw; (try dsimp only at hSw); go_simp; try (with_reducible rfl)⟩) (by assumption) ?_
          simp only [Act.put, List.setIfInBounds_toArray, List.set_cons_zero, List.set_cons_succ]
          refine wpAnyH_done (by kernel_rfl) ?_ _
          refine hK _ _ ?_
          obtain ⟨A3, c3, hVy, _⟩ := own_slice (HP1.out.1.own y hy3)
          have ca2 := (s_cells (SK.out x w2 hx3 (HC2.out.mono (by simp))).1 (SK.out x w2 hx3 (HC2.out.mono (by simp))).2 hy3 hVy).2.2.2
          have fa2 := (SK.out x w2 hx3 (HC2.out.mono (by simp))).2.frozen y
          clear hVy
          go_wp2_with fail
          go_meet
          case rel =>
            obtain ⟨ho2, hb2⟩ := W.out
            have hn := HVx.out.2
            refine ⟨_, _, rfl, Lib.hid (ps_step (L' := LL x) HP1.out.1 HP1.out.2 hy3 (by have := X.out.1; omega) HT.out.1 HC2.out (fun q hq => by cases hq) (by simpa using ho2) (fun q hq => ?_) (by rw [← hn]; omega) (fun z hz => .inl (HP1.out.1.sub x hx3 z hz)) (fun j hj z => ?_) (.inl rfl))⟩
            · rcases hb2 q (by rw [← hq]; exact ownBlock_len _ _ _ _ _) with h1 | h1
              · simp [Value.ownBlock] at h1; omega
              · right; simp at h1; omega
            · have h1 := HP1.out.1.says x hx3 z
              by_cases hjy : j = y
              · subst hjy
                simp [stepH, h1]
              · simp [stepH, hjy]
        · go_upto_region 12 with fail
          refine wp_region_last' (fun w' => w'.cell? ⟨sx, 1, none⟩ = some (.int .i64 (x : Int)) ∧ w'.cell? ⟨sx, 2, none⟩ = some (.int .i64 (y : Int)) ∧ w'.cell? ⟨b3, x, none⟩ = some (.slice Ax nx cx)) 9 (by kernel_rfl) (by kernel_rfl) ⟨d1, d2, ca⟩ (fun K hK hHeld => ?_)
          simp only [List.take_succ_cons, List.take_zero, List.drop_succ_cons, List.drop_zero] at hK ⊢
          refine take_at 0 46 rfl rfl (by kernel_rfl) (by kernel_rfl) (by kernel_rfl) (fun _ _ _ h => h) (Or.inl ⟨by rfl, by intro w' hSw; (try dsimp only at hSw); go_simp; try (with_reducible rfl)⟩) (by assumption) ?_
          simp only [Act.put, List.setIfInBounds_toArray, List.set_cons_zero, List.set_cons_succ]
          refine take_at 1 47 rfl rfl (by kernel_rfl) (by kernel_rfl) (by kernel_rfl) (fun _ _ _ h => h) (Or.inl ⟨by rfl, by intro w' hSw; (try dsimp only at hSw); go_simp; try (with_reducible rfl)⟩) (by assumption) ?_
          simp only [Act.put, List.setIfInBounds_toArray, List.set_cons_zero, List.set_cons_succ]
          refine take_at 3 49 rfl rfl (by kernel_rfl) (by kernel_rfl) (by kernel_rfl) (fun _ _ _ h => h) (Or.inl ⟨by rfl, by intro w' hSw; (try dsimp only at hSw); go_simp; try (with_reducible rfl)⟩) (by assumption) ?_
          simp only [Act.put, List.setIfInBounds_toArray, List.set_cons_zero, List.set_cons_succ]
          refine take_at 4 50 rfl rfl (by kernel_rfl) (by kernel_rfl) (by kernel_rfl) (fun _ _ _ h => h) (Or.inl ⟨by rfl, by intro w' hSw; (try dsimp only at hSw); go_simp; try (with_reducible rfl)⟩) (by assumption) ?_
          simp only [Act.put, List.setIfInBounds_toArray, List.set_cons_zero, List.set_cons_succ]
          refine take_at 5 51 rfl rfl (by kernel_rfl) (by kernel_rfl) (by kernel_rfl) (fun _ _ _ h => h) (Or.inl ⟨by rfl, by intro w' hSw; (try dsimp only at hSw); go_simp; try (with_reducible rfl)⟩) (by assumption) ?_
          simp only [Act.put, List.setIfInBounds_toArray, List.set_cons_zero, List.set_cons_succ]
          refine take_at 6 52 rfl rfl (by kernel_rfl) (by kernel_rfl) (by kernel_rfl) (fun _ _ _ h => h) (Or.inl ⟨by rfl, by intro w' hSw; (try dsimp only at hSw); go_simp; try (with_reducible rfl)⟩) (by assumption) ?_
          simp only [Act.put, List.setIfInBounds_toArray, List.set_cons_zero, List.set_cons_succ]
          refine wpAnyH_ready (rs := [2]) (by kernel_rfl) (by simp) ?_
          refine AllReadyH.cons rfl (fun K' hK' => ?_) AllReadyH.nil
          go_simp
          refine hK'.out _ _ ?_ (fun hHeld => ?_)
          · obtain ⟨hbx, hba⟩ := SK.out x (w1.alloc (.cells #[] 38)).drew hx3 ((Chg.refl _ w1).alloc _).drew
            have h := s_cells hbx hba hx3 HVx.out.1
            exact ⟨h.1, h.2.1, h.2.2.2⟩
          try simp only [Act.put, List.setIfInBounds_toArray, List.set_cons_zero, List.set_cons_succ]
          have HO : Hid ((w1.alloc (.cells #[] 38)).drew.ownsRow 0 38 1 (.slice (some ⟨w1.heap.size, 0, none⟩) 0 0) 0 [] ∧ (w1.alloc (.cells #[] 38)).drew.ownsRow 0 38 1 (.slice Ax nx cx) nx ((LL x).map vU64)) := by
            have h1 := HP1.out.1.own x hx3
            rw [HVx.out.1, ← HVx.out.2] at h1
            exact Lib.hid ⟨rowOfBlk (Blk.new w1 38 #[]) rfl (by unfold maxLen; omega), own_agree h1 (fun q hq => Below.heap_alloc _ _ _ (own_lt h1 hq))⟩
          refine wpAnyH_ready (rs := [7]) (by kernel_rfl) (by simp) ?_
          refine AllReadyH.cons rfl (fun K' hK' => ?_) AllReadyH.nil
          refine step_app_any A29 53 rfl rfl _ _ rfl (.slice (some ⟨w1.heap.size, 0, none⟩) 0 0) 0 [] (by rfl) HO.out.1 Ax nx cx ((LL x).map vU64) (by rfl) HO.out.2 (vU64_one (LL x)) (by omega) (by omega) ?_
          intro A2 c2 w2 ho2 hg2 hb2
          have HC2 : Hid (Chg [] w1 w2) := by
            have h1 : Chg [] w1 (w1.alloc (.cells #[] 38)).drew := ((Chg.refl _ _).alloc _).drew
            exact Lib.hid (h1.grown hg2 (fun q hq => .inr (by simp [Value.ownBlock] at hq; omega)))
          have W := Lib.hid (And.intro ho2 hb2)
          clear ho2 hb2 hg2
          refine hK'.out _ _ ?_ (fun hHeld => ?_)
          · obtain ⟨hbx, hba⟩ := SK.out x w2 hx3 (HC2.out.mono (by simp))
            have h := s_cells hbx hba hx3 HVx.out.1
            exact ⟨h.1, h.2.1, h.2.2.2⟩
          try simp only [Act.put, List.setIfInBounds_toArray, List.set_cons_zero, List.set_cons_succ]
          refine take_at 8 54 rfl rfl (by kernel_rfl) (by kernel_rfl) (by kernel_rfl) (fun _ _ _ h => h) (Or.inl ⟨by rfl, by intro w' hSw; (try dsimp only at hSw); go_simp; try (with_reducible rfl)⟩) (by assumption) ?_
          simp only [Act.put, List.setIfInBounds_toArray, List.set_cons_zero, List.set_cons_succ]
          refine wpAnyH_done (by kernel_rfl) ?_ _
          refine hK _ _ ?_
          obtain ⟨A3, c3, hVy, _⟩ := own_slice (HP1.out.1.own y hy3)
          have ca2 := (s_cells (SK.out x w2 hx3 (HC2.out.mono (by simp))).1 (SK.out x w2 hx3 (HC2.out.mono (by simp))).2 hy3 hVy).2.2.2
          have fa2 := (SK.out x w2 hx3 (HC2.out.mono (by simp))).2.frozen y
          clear hVy
          go_wp2_with fail
          go_meet
          case rel =>
            obtain ⟨ho2, hb2⟩ := W.out
            have hn := HVx.out.2
            refine ⟨_, _, rfl, Lib.hid (ps_step (L' := LL x) HP1.out.1 HP1.out.2 hy3 (by have := X.out.1; omega) HT.out.1 HC2.out (fun q hq => by cases hq) (by simpa using ho2) (fun q hq => ?_) (by rw [← hn]; omega) (fun z hz => .inl (HP1.out.1.sub x hx3 z hz)) (fun j hj z => ?_) (.inl rfl))⟩
            · rcases hb2 q (by rw [← hq]; exact ownBlock_len _ _ _ _ _) with h1 | h1
              · simp [Value.ownBlock] at h1; omega
              · right; simp at h1; omega
            · have h1 := HP1.out.1.says x hx3 z
              by_cases hjy : j = y
              · subst hjy
                simp [stepH, h1]
              · simp [stepH, hjy]
        · have hza := HP1.out.1.blk.cell x
          go_wp2_with fail
          go_meet
          case rel =>
            refine ⟨_, _, rfl, Lib.hid (ps_step (L' := []) (n' := 0) HP1.out.1 HP1.out.2 hx3 (by have := X.out.1; omega) HT.out.1 (Chg.refl [] w1) (fun q hq => by cases hq) ⟨rfl, .inl ⟨rfl, rfl⟩⟩ (fun q hq => by cases hq) (by simp) (fun z hz => by cases hz) (fun j hj z => ?_) (.inr (by simp)))⟩
            by_cases hjx : j = x
            · subst hjx
              simp [stepH]
            · simp [stepH, hjx]
      case rest =>
        obtain ⟨V2, LL2, rfl, hR⟩ := hcut
        clear HP1
        obtain ⟨Ay, cy, hVy, _⟩ := own_slice (hR.out.1.own y hy3)
        obtain ⟨ny, hny⟩ : ∃ ny, ny = (LL2 y).length := ⟨_, rfl⟩
        have hny1 : ny ≤ 60000 := by rw [hny]; exact hR.out.1.small y hy3
        have cb := hR.out.1.blk.cell y
        rw [arr3_get V2 hy3, hVy, ← hny] at cb
        have fb := hR.out.1.blk.frozen y
        have d2 := hR.out.2.2.cell 2
        simp at d2
        have HVy : Hid (V2 y = .slice Ay ny cy ∧ ny = (LL2 y).length) := Lib.hid ⟨by rw [hVy, hny], hny⟩
        clear hVy hny
        have by_ : (0 : Int) ≤ (y : Int) := by omega
        have by2 : (y : Int) < 3 := by omega
        by_cases hbig : 20000 < ny
        · obtain ⟨gy, hAy⟩ : ∃ gy, Ay = some ⟨gy, 0, none⟩ := by
            have h1 := hR.out.1.own y hy3
            rw [HVy.out.1] at h1
            rcases own_form h1 with ⟨h2, _, _⟩ | ⟨g', cap, h2, _⟩
            · simp only [Value.slice.injEq] at h2
              omega
            · simp only [Value.slice.injEq] at h2
              exact ⟨g', h2.1⟩
          subst hAy
          have HON : Hid (Calls Tryz.prog 18 #[.slice (some ⟨gy, 0, none⟩) ny cy] wc.drew (OnceOut wc.drew (LL2 y))) := by
            have h1 := hR.out.1.own y hy3
            rw [HVy.out.1, ← HVy.out.2] at h1
            refine Lib.hid (once_any wc.drew gy ny cy (LL2 y) (own_agree h1 (fun _ _ => rfl)) HVy.out.2 (by omega) (fun z hz => ?_))
            obtain ⟨s', hs', rfl⟩ := List.mem_map.1 (hR.out.1.sub y hy3 z hz)
            exact (X.out.2 s' (List.mem_of_mem_take hs')).2.2.2.2
          go_upto_region 16 with fail
          refine wp_region_last' (fun w' => w'.cell? ⟨sx, 2, none⟩ = some (.int .i64 (y : Int)) ∧ w'.cell? ⟨b3, y, none⟩ = some (.slice (some ⟨gy, 0, none⟩) ny cy)) 8 (by kernel_rfl) (by kernel_rfl) ⟨d2, cb⟩ (fun K hK hHeld => ?_)
          simp only [List.take_succ_cons, List.take_zero, List.drop_succ_cons, List.drop_zero] at hK ⊢
          refine take_at 0 66 rfl rfl (by kernel_rfl) (by kernel_rfl) (by kernel_rfl) (fun _ _ _ h => h) (Or.inl ⟨by rfl, by intro w' hSw; (try dsimp only at hSw); go_simp; try (with_reducible rfl)⟩) (by assumption) ?_
          simp only [Act.put, List.setIfInBounds_toArray, List.set_cons_zero, List.set_cons_succ]
          refine take_at 1 67 rfl rfl (by kernel_rfl) (by kernel_rfl) (by kernel_rfl) (fun _ _ _ h => h) (Or.inl ⟨by rfl, by intro w' hSw; (try dsimp only at hSw); go_simp; try (with_reducible rfl)⟩) (by assumption) ?_
          simp only [Act.put, List.setIfInBounds_toArray, List.set_cons_zero, List.set_cons_succ]
          refine take_at 2 68 rfl rfl (by kernel_rfl) (by kernel_rfl) (by kernel_rfl) (fun _ _ _ h => h) (Or.inl ⟨by rfl, by intro w' hSw; (try dsimp only at hSw); go_simp; try (with_reducible rfl)⟩) (by assumption) ?_
          simp only [Act.put, List.setIfInBounds_toArray, List.set_cons_zero, List.set_cons_succ]
          refine take_at 3 69 rfl rfl (by kernel_rfl) (by kernel_rfl) (by kernel_rfl) (fun _ _ _ h => h) (Or.inl ⟨by rfl, by intro w' hSw; (try dsimp only at hSw); go_simp; try (with_reducible rfl)⟩) (by assumption) ?_
          simp only [Act.put, List.setIfInBounds_toArray, List.set_cons_zero, List.set_cons_succ]
          refine take_at 4 70 rfl rfl (by kernel_rfl) (by kernel_rfl) (by kernel_rfl) (fun _ _ _ h => h) (Or.inl ⟨by rfl, by intro w' hSw; (try dsimp only at hSw); go_simp; try (with_reducible rfl)⟩) (by assumption) ?_
          simp only [Act.put, List.setIfInBounds_toArray, List.set_cons_zero, List.set_cons_succ]
          refine take_at 5 71 rfl rfl (by kernel_rfl) (by kernel_rfl) (by kernel_rfl) (fun _ _ _ h => h) (Or.inl ⟨by rfl, by intro w' hSw; (try dsimp only at hSw); go_simp; try (with_reducible rfl)⟩) (by assumption) ?_
          simp only [Act.put, List.setIfInBounds_toArray, List.set_cons_zero, List.set_cons_succ]
          refine wpAnyH_ready (rs := [6]) (by kernel_rfl) (by simp) ?_
          refine AllReadyH.cons rfl (fun K' hK' => ?_) AllReadyH.nil
          go_simp
          refine HON.out.mono ?_
          rintro e w2 ⟨A2, n2, c2, T, rfl, hT1, hT2, hT3, hT4, hT5, hT6⟩
          have HC2 : Hid (Chg [] wc w2) := Lib.hid ((Chg.refl _ _).drew.trans hT5 (by simp))
          have HT2 := Lib.hid (And.intro hT1 (And.intro hT2 (And.intro hT3 (And.intro hT4 hT6))))
          clear hT1 hT2 hT3 hT4 hT5 hT6
          refine hK'.out _ _ ?_ (fun hHeld => ?_)
          · have h1 := (hR.out.2.2.chg HC2.out (by simp)).cell 2
            have h2 := (hR.out.1.blk.chg HC2.out (by simp)).cell y
            rw [arr3_get V2 hy3, HVy.out.1] at h2
            exact ⟨by simpa using h1, h2⟩
          try simp only [Act.put, List.setIfInBounds_toArray, List.set_cons_zero, List.set_cons_succ]
          refine take_at 7 73 rfl rfl (by kernel_rfl) (by kernel_rfl) (by kernel_rfl) (fun _ _ _ h => h) (Or.inl ⟨by rfl, by intro w' hSw; (try dsimp only at hSw); go_simp; try (with_reducible rfl)⟩) (by assumption) ?_
          simp only [Act.put, List.setIfInBounds_toArray, List.set_cons_zero, List.set_cons_succ]
          refine wpAnyH_done (by kernel_rfl) ?_ _
          refine hK _ _ ?_
          have ca2 := hHeld.2
          have fa2 := (hR.out.1.blk.chg HC2.out (by simp)).frozen y
          go_wp2_with fail
          go_roundw
          case rel =>
            obtain ⟨hT1, hT2, hT3, hT4, hT6⟩ := HT2.out
            have hle : T.length ≤ i + 1 := by
              have h1 := nodup_le ((L.take (i + 1)).map St.hash) hT3 (fun z hz => hR.out.1.sub y hy3 z ((hT4 z).1 hz))
              rw [List.length_map, List.length_take] at h1
              omega
            have hup := hR.out.1.upd (k' := 60000) (P' := (L.take (i + 1)).map St.hash) (H' := playH (L.take (i + 1))) hy3 HC2.out (fun q hq => by cases hq) hT2 (fun q hq => .inr (hT6 q hq)) (Nat.le_refl _) (by omega) (fun _ h => h) (fun z hz => hR.out.1.sub y hy3 z ((hT4 z).1 hz)) (fun j hj z => by
              by_cases hjy : j = y
              · subst hjy
                rw [if_pos rfl, hT4 z]
                exact (hR.out.1.says j hj z).symm
              · rw [if_neg hjy])
            refine ⟨i + 1, _, _, by go_num, by omega, Lib.hid (hup.cap (fun j hj => ?_))⟩
            by_cases hjy : j = y
            · subst hjy
              rw [upd3_same]
              omega
            · rw [upd3_ne LL2 T hjy]
              exact hR.out.2.1 j hj hjy
          case measure => simp [intOf]; omega
        · go_wp2_with fail
          go_roundw
          case rel =>
            refine ⟨i + 1, V2, LL2, by go_num, by omega, Lib.hid (hR.out.1.cap (fun j hj => ?_))⟩
            by_cases hjy : j = y
            · subst hjy
              have := HVy.out.2
              omega
            · exact hR.out.2.1 j hj hjy
          case measure => simp [intOf]; omega
    · obtain ⟨A0', c0', hV0, _⟩ := own_slice (hI.out.own 0 (by omega))
      obtain ⟨A1', c1', hV1, _⟩ := own_slice (hI.out.own 1 (by omega))
      obtain ⟨A2', c2', hV2, _⟩ := own_slice (hI.out.own 2 (by omega))
      generalize hl0 : (LL 0).length = l0 at hV0
      generalize hl1 : (LL 1).length = l1 at hV1
      generalize hl2 : (LL 2).length = l2 at hV2
      have p0 := hI.out.blk.cell 0
      have p1 := hI.out.blk.cell 1
      have p2 := hI.out.blk.cell 2
      have q0 := hI.out.res.cell 0
      have q1 := hI.out.res.cell 1
      have q2 := hI.out.res.cell 2
      have f0 := hI.out.res.frozen 0
      have f1 := hI.out.res.frozen 1
      have f2 := hI.out.res.frozen 2
      simp [arr3, hV0, hV1, hV2] at p0 p1 p2 q0 q1 q2
      have HV := Lib.hid (And.intro hV0 (And.intro hV1 hV2))
      clear hl0 hl1 hl2 hV0 hV1 hV2
      go_wp2_with fail
      have hiL : i = L.length := by rw [← X.out.1]; omega
      have hB : Blk (((wr.setCell ⟨b2, 0, none⟩ (.slice A0' l0 c0')).setCell ⟨b2, 1, none⟩ (.slice A1' l1 c1')).setCell ⟨b2, 2, none⟩ (.slice A2' l2 c2')) b2 30 (arr3 V) := by
        have h1 := ((hI.out.res.set_ 0 (.slice A0' l0 c0')).set_ 1 (.slice A1' l1 c1')).set_ 2 (.slice A2' l2 c2')
        simpa [arr3, HV.out.1, HV.out.2.1, HV.out.2.2] using h1
      have hH : ∀ k, k ≠ b2 → (((wr.setCell ⟨b2, 0, none⟩ (.slice A0' l0 c0')).setCell ⟨b2, 1, none⟩ (.slice A1' l1 c1')).setCell ⟨b2, 2, none⟩ (.slice A2' l2 c2')).heap[k]? = wr.heap[k]? := fun k hk => by
        rw [Below.heap_setCell _ _ _ _ hk, Below.heap_setCell _ _ _ _ hk, Below.heap_setCell _ _ _ _ hk]
      have hC : Chg [] w (((wr.setCell ⟨b2, 0, none⟩ (.slice A0' l0 c0')).setCell ⟨b2, 1, none⟩ (.slice A1' l1 c1')).setCell ⟨b2, 2, none⟩ (.slice A2' l2 c2')) := ((hI.out.chg.setCell (.inr hI.out.b0new) _).setCell (.inr hI.out.b0new) _).setCell (.inr hI.out.b0new) _
      generalize ((wr.setCell ⟨b2, 0, none⟩ (.slice A0' l0 c0')).setCell ⟨b2, 1, none⟩ (.slice A1' l1 c1')).setCell ⟨b2, 2, none⟩ (.slice A2' l2 c2') = w3 at hB hH hC ⊢
      have r0 := hB.cell 0
      have r1 := hB.cell 1
      have r2 := hB.cell 2
      simp [arr3] at r0 r1 r2
      refine bodyPost_ret (v := .agg #[V 0, V 1, V 2]) (by simp [results, Tryz.results6, go_sem, r0, r1, r2]) rfl ?_
      have hh := hI.out
      rw [hiL, List.take_length] at hh
      refine ⟨V, LL, rfl, fun j hj => own_agree (hh.own j hj) (fun q hq => hH q ?_), fun j hj => ?_, fun j hj z hz => ?_, hh.says, hC⟩
      · rintro rfl
        exact own_ne (hh.own j hj) hh.res (by decide) hq
      · have := hh.small j hj
        have := X.out.1
        omega
      · obtain ⟨s', hs', rfl⟩ := List.mem_map.1 (hh.sub j hj z hz)
        exact (X.out.2 s' hs').2.2.2.2
end Go.Proofs.YtgoliddhhichgaaGreatDoor
