/- The walk of spec.Script. -/
import Derived.Test.YtgoliddhhichgaaGreatDoorSpA
import Derived.Deep.RegionHeld3
import Derived.Deep.AppendLies
import Derived.Deep.Cut
import Derived.Deep.CutRange
import Derived.BigRegion
namespace Go.Proofs.YtgoliddhhichgaaGreatDoor
open Go.RowKit Pl

structure St where
  kind : Nat
  src : Nat
  dst : Nat
  hash : Nat
def stc (s : St) : List Value := [.int .i64 (s.kind : Int), .int .i64 (s.src : Int), .int .i64 (s.dst : Int), .int .u64 (s.hash : Int)]
def GoodSt (s : St) : Prop := s.kind ≤ 4 ∧ s.src < 3 ∧ s.dst < 3 ∧ s.src ≠ s.dst ∧ s.hash < 18446744073709551616
def Steps (w : World) (v : Value) (L : List St) : Prop := w.ownsRow 0 40 4 v L.length (L.flatMap stc)

/-- append of one step. -/
theorem wpAppS (w : World) {ops : Array Oper} {rest : List Oper} {o : Oper} {a : Act} {Q : Exit → Act → World → Prop} (hgd : o.guard = none) (s x : Operand)
    (ho : o.op = .call { callee := .builtin .append, args := #[s, x], argTypes := #[23, 23] })
    (v : Value) (n : Nat) (xs : List Value) (hs : a.eval s = v) (hown : w.ownsRow 0 40 4 v n xs)
    (ad : Addr) (c : Nat) (news : List Value) (hx : a.eval x = .slice (some ad) 1 c) (hl : news.length = 4) (hnews : ∀ j u, news[j]? = some u → w.cell? (ad.add j) = some u) (h1 : ∀ u ∈ news, u.oneCell' = true)
    (hnm : n ≤ 1000000)
    (h : ∀ g cap w', w'.ownsRow 0 40 4 (.slice (some ⟨g, 0, none⟩) (n + 1) cap) (n + 1) (xs ++ news) → w.grownBy w' v.ownBlock → (v.ownBlock = some g ∨ g = w.heap.size) → wpList Tryz.prog ops Q rest (a.put o.dst (.slice (some ⟨g, 0, none⟩) (n + 1) cap)) w') :
    wpList Tryz.prog ops Q (o :: rest) a w := by
  obtain ⟨i, hi, hz0, hz1, hz2⟩ : ∃ i, Tryz.prog.info? 40 = some i ∧ i.zero = some (.agg #[.int .i64 0, .int .i64 0, .int .i64 0, .int .u64 0]) ∧ i.size = 4 ∧ i.bytes = 32 := by
    have h : (Tryz.prog.info? 40).map (fun i => (i.zero, i.size, i.bytes)) = some (some (.agg #[.int .i64 0, .int .i64 0, .int .i64 0, .int .u64 0]), 4, 32) := by kernel_rfl
    cases hi : Tryz.prog.info? 40 with
    | none => rw [hi] at h; cases h
    | some i =>
      rw [hi] at h
      simp only [Option.map_some, Option.some.injEq, Prod.mk.injEq] at h
      exact ⟨i, rfl, h.1, h.2.1, h.2.2⟩
  refine wpList_append_lies w hgd s x 23 ho 0 40 i _ 4 32 Tryz.underlying23 hi hz0 hz1 hz2 rfl (by omega) v n xs hs hown ad 1 c news hx (by rw [hl]) hnews h1 (by omega) (by unfold maxLen; omega) (by omega) (Nat.zero_le _) _ rfl fun g cap w' ha hb hc _ => h g cap w' ha hb hc
theorem Steps.snoc {w' : World} {L : List St} {v : Value} {s : St} (h : w'.ownsRow 0 40 4 v (L.length + 1) (L.flatMap stc ++ stc s)) : Steps w' v (L ++ [s]) := by
  unfold Steps
  rw [List.length_append, List.flatMap_append]
  simpa using h
theorem stepsAgree {w w' : World} {v : Value} {L : List St} (h : Steps w v L) (ha : ∀ g, v.ownBlock = some g → w'.heap[g]? = w.heap[g]?) : Steps w' v L := by
  refine ⟨h.1, ?_⟩
  rcases h.2 with h0 | ⟨g, cap, cur, rfl, hb, hg, hr⟩
  · exact .inl h0
  · exact .inr ⟨g, cap, cur, rfl, hb, (ha g rfl).trans hg, hr⟩
theorem Steps.lt {w : World} {v : Value} {L : List St} (h : Steps w v L) {g : Nat} (hg : v.ownBlock = some g) : g < w.heap.size := (World.ownsRow.lt h g hg).2
theorem Steps.nil (w : World) : Steps w (.slice none 0 0) [] := ⟨rfl, .inl ⟨rfl, rfl⟩⟩
theorem stc_one (s : St) : ∀ u ∈ stc s, u.oneCell' = true := by
  intro u hu
  unfold stc at hu
  simp only [List.mem_cons, List.not_mem_nil, or_false] at hu
  rcases hu with rfl | rfl | rfl | rfl <;> rfl

theorem alloc_new' (w : World) (o : Obj) (k : Nat) (h : w.heap.size = k) : (w.alloc o).heap[k]? = some o := by subst h; exact heap_alloc_new w o
theorem addr_block (a : Addr) (j : Nat) : (a.add j).block = a.block := by unfold Addr.add; split <;> rfl
theorem tab_at (q : Nat) (h : q < 8) : ∃ k : Nat, k ≤ 4 ∧ ([.int .i64 0, .int .i64 0, .int .i64 0, .int .i64 1, .int .i64 1, .int .i64 2, .int .i64 3, .int .i64 4] : List Value)[q]'h = .int .i64 (k : Int) := by
  rcases q with _ | _ | _ | _ | _ | _ | _ | _ | q
  · exact ⟨0, by omega, rfl⟩
  · exact ⟨0, by omega, rfl⟩
  · exact ⟨0, by omega, rfl⟩
  · exact ⟨1, by omega, rfl⟩
  · exact ⟨1, by omega, rfl⟩
  · exact ⟨2, by omega, rfl⟩
  · exact ⟨3, by omega, rfl⟩
  · exact ⟨4, by omega, rfl⟩
  · omega

/-- The state of Script's loops. -/
def ScI (w wr : World) (v : Value) (L : List St) (j : Nat) : Prop :=
  Steps wr v L ∧ L.length ≤ 64 * j ∧ (∀ s, s ∈ L → GoodSt s) ∧ Chg [] w wr ∧ (∀ g, v.ownBlock = some g → w.heap.size ≤ g)

set_option maxHeartbeats 4000000 in
set_option maxRecDepth 100000 in
theorem script_any (w : World) (ad : Addr) (n c : Nat) (hd : ∀ i, i < n → ∃ r : Nat, r < 256 ∧ w.cell? (ad.add i) = some (.int .u8 (r : Int))) :
    Calls Tryz.prog 4 #[.slice (some ad) n c] w fun e w' => ∃ v L, e = .returned v ∧ Steps w' v L ∧ L.length ≤ 5120 ∧ (∀ s, s ∈ L → GoodSt s) ∧ Chg [] w w' ∧ (∀ g, v.ownBlock = some g → w.heap.size ≤ g) := by
  have X := Lib.hid hd
  clear hd
  go_enter Tryz.func4, Tryz.ntmps4
  go_wp2_with fail
  go_loopw [3, 4] (fun s3 s4 wr => ∃ (A : Option Addr) (j i m cc : Nat) (L : List St), s3 = .slice A m cc ∧ s4 = .int .i64 (i : Int) ∧ i ≤ 240 ∧ Hid (i = 3 * j ∧ m = L.length ∧ ScI w wr (.slice A m cc) L j)) (fun _ s4 _ => 240 - (intOf s4).toNat)
  case atStart =>
    exact ⟨none, 0, 0, 0, 0, [], rfl, rfl, by omega, rfl, rfl, Steps.nil w, by simp, (fun s hs => by cases hs), Chg.refl _ _, fun g hg => by cases hg⟩
  case round =>
    obtain ⟨A, j, i, m, cc, L, rfl, rfl, hj, hI⟩ := hrel
    by_cases h1 : i + 2 < n ∧ i < 240
    · obtain ⟨h1, h2⟩ := h1
      obtain ⟨r0, hr0, c0⟩ := X.out i (by omega)
      obtain ⟨r1, hr1, c1⟩ := X.out (i + 1) (by omega)
      obtain ⟨r2, hr2, c2⟩ := X.out (i + 2) (by omega)
      have hck : ∀ W, Chg [] w W → ∀ q u, w.cell? (ad.add q) = some u → W.cell? (ad.add q) = some u := fun W hc q u h => by
        rw [(hc.below (Nat.le_refl _) (fun k hk => by cases hk)).cell (World.block_lt_of_cell? w _ h)]
        exact h
      have d0 := hck wr hI.out.2.2.2.2.2.1 _ _ c0
      have d1 := hck wr hI.out.2.2.2.2.2.1 _ _ c1
      have hadd : ∀ q, ad.add (q + 1) = ⟨ad.block, ad.off + (q + 1), none⟩ := fun q => by simp [Addr.add]
      rw [hadd] at d1
      have HC := Lib.hid (And.intro c0 (And.intro c1 (And.intro c2 (And.intro hck hadd))))
      clear c0 c1 c2 hck hadd
      have b1 : (0 : Int) ≤ (i : Int) := by omega
      have b2 : (i : Int) < (n : Int) := by omega
      have b3 : IntKind.i64.wrap ((i : Int) + 1) = (i : Int) + 1 := IntWalk.i64_in _ (by omega)
      have b4 : (0 : Int) ≤ (i : Int) + 1 := by omega
      have b5 : (i : Int) + 1 < (n : Int) := by omega
      go_upto_region 5 with fail
      go_cut [5] from 7 to 93 (fun s5 wx => ∃ (g k x y : Nat), s5 = .pointer (some ⟨g, 0, none⟩) ∧ k ≤ 4 ∧ x < 3 ∧ y < 3 ∧ Hid (Blk wx g 40 #[.int .i64 (k : Int), .int .i64 (x : Int), .int .i64 (y : Int), .int .u64 0] ∧ wr.heap.size ≤ g ∧ Chg [] wr wx))
      case first =>
        obtain ⟨q, hq8, hq⟩ : ∃ q : Nat, q < 8 ∧ (r0 : Int) % 8 = (q : Int) := ⟨r0 % 8, by omega, by omega⟩
        obtain ⟨k, hk4, htab⟩ : ∃ k : Nat, k ≤ 4 ∧ ([.int .i64 0, .int .i64 0, .int .i64 0, .int .i64 1, .int .i64 1, .int .i64 2, .int .i64 3, .int .i64 4] : List Value)[q]'hq8 = .int .i64 (k : Int) := tab_at q hq8
        obtain ⟨x, hx3, hx⟩ : ∃ x : Nat, x < 3 ∧ Int.tmod (r1 : Int) 3 = (x : Int) := ⟨r1 % 3, by omega, by rw [Int.tmod_eq_emod_of_nonneg (by omega)]; omega⟩
        obtain ⟨y0, hy30, hy0⟩ : ∃ y : Nat, y < 256 ∧ IntKind.u8.wrap ((r1 : Int) / 3) = (y : Int) := ⟨r1 / 3, by omega, by rw [IntKind.wrap_u8]; omega⟩
        obtain ⟨y, hy3, hy⟩ : ∃ y : Nat, y < 3 ∧ Int.tmod (y0 : Int) 3 = (y : Int) := ⟨y0 % 3, by omega, by rw [Int.tmod_eq_emod_of_nonneg (by omega)]; omega⟩
        have hwx : IntKind.i64.wrap (x : Int) = (x : Int) := IntWalk.i64_in _ (by omega)
        have hwy : IntKind.i64.wrap (y : Int) = (y : Int) := IntWalk.i64_in _ (by omega)
        have hq1 : ((r0 % 8 : Nat) : Int) = (q : Int) := by omega
        have hq2 : Int.tmod (r0 : Int) 8 = (q : Int) := by rw [Int.tmod_eq_emod_of_nonneg (by omega)]; omega
        have b6 : (0 : Int) ≤ (q : Int) := by omega
        have b7 : (q : Int) < 8 := by omega
        have d0a : ∀ o, (wr.alloc o).cell? (ad.add i) = some (.int .u8 (r0 : Int)) := fun o => by rw [World.cell?_alloc_some _ _ _ (by rw [d0]; rfl)]; exact d0
        have d1a : ∀ o, (wr.alloc o).cell? ⟨ad.block, ad.off + (i + 1), none⟩ = some (.int .u8 (r1 : Int)) := fun o => by rw [World.cell?_alloc_some _ _ _ (by rw [d1]; rfl)]; exact d1
        have d0b : ∀ o o', ((wr.alloc o).alloc o').cell? (ad.add i) = some (.int .u8 (r0 : Int)) := fun o o' => by rw [World.cell?_alloc_some _ _ _ (by rw [d0a]; rfl)]; exact d0a o
        have d1b : ∀ o o', ((wr.alloc o).alloc o').cell? ⟨ad.block, ad.off + (i + 1), none⟩ = some (.int .u8 (r1 : Int)) := fun o o' => by rw [World.cell?_alloc_some _ _ _ (by rw [d1a]; rfl)]; exact d1a o
        go_region
        all_goals go_wp2_with fail
        all_goals go_meet
        case rel =>
          exact ⟨wr.heap.size + 1, k, x, y, rfl, hk4, hx3, hy3, alloc_new' (wr.alloc _) _ _ (by simp), by omega, (((Chg.refl _ _).alloc _).alloc _).drew⟩
        case rel =>
          refine ⟨wr.heap.size, k, x, y, rfl, hk4, hx3, hy3, (Blk.new wr 40 _).alloc _, by omega, (((Chg.refl _ _).alloc _).alloc _).drew⟩
      case rest =>
        obtain ⟨g, k, x, y, rfl, hk4, hx3, hy3, hG⟩ := hcut
        clear d0 d1 b1 b2 b3 b4 b5
        have hb0 := hG.out.1.cell 0
        have hb1 := hG.out.1.cell 1
        have hb2 := hG.out.1.cell 2
        have hb3 := hG.out.1.cell 3
        have hf2 := hG.out.1.frozen 2
        simp at hb0 hb1 hb2 hb3
        go_upto_if 46 with fail
        go_cut [] from 7 to 93 (fun wx => ∃ (y : Nat), y < 3 ∧ x ≠ y ∧ Hid (Blk wx g 40 #[.int .i64 (k : Int), .int .i64 (x : Int), .int .i64 (y : Int), .int .u64 0] ∧ wr.heap.size ≤ g ∧ Chg [] wr wx))
        case first =>
          by_cases hxy : x = y
          · subst hxy
            obtain ⟨y', hy', hyx, hyw⟩ : ∃ y' : Nat, y' < 3 ∧ x ≠ y' ∧ ((x : Int) + 1) % 3 = (y' : Int) := ⟨(x + 1) % 3, by omega, by omega, by omega⟩
            go_wp2_with fail
            go_meet
            case rel =>
              have hg := hG.out.1.set_ 2 (.int .i64 (y' : Int))
              exact ⟨y', hy', hyx, by simpa using hg, hG.out.2.1, hG.out.2.2.setCell (.inr hG.out.2.1) _⟩
          · have hxy' : ((x : Int) == (y : Int)) = false := by simp; omega
            go_wp2_with fail
            go_meet
            case rel => exact ⟨y, hy3, hxy, hG.out⟩
        case rest =>
          obtain ⟨y, hy3, hxy, hG⟩ := hcut
          clear hb0 hb1 hb2 hb3 hf2
          have hb0 := hG.out.1.cell 0
          have hb1 := hG.out.1.cell 1
          have hb2 := hG.out.1.cell 2
          have hb3 := hG.out.1.cell 3
          have hf3 := hG.out.1.frozen 3
          simp at hb0 hb1 hb2 hb3
          have HW := Lib.hid (And.intro hG.out.1 hG.out.2.1)
          have HS : Hid (ScI w wc (.slice A m cc) L j) := by
            obtain ⟨_, hm, h1, h2, h3, h4, h5⟩ := hI.out
            refine Lib.hid ⟨stepsAgree h1 (fun k hk => hG.out.2.2.same (h1.lt hk) (by simp)), h2, h3, h4.trans hG.out.2.2 (by simp), h5⟩
          have HCr : Hid (w.heap.size ≤ wr.heap.size) := Lib.hid hI.out.2.2.2.2.2.1.size
          have HM : Hid (i = 3 * j ∧ m = L.length ∧ j < 80) := Lib.hid ⟨hI.out.1, hI.out.2.1, by have := hI.out.1; omega⟩
          have hm6 : m ≤ 5120 := by have := HM.out; have := HS.out.2.1; omega
          have HLt : Hid (∀ k, (Value.slice A m cc).ownBlock = some k → k < wr.heap.size) := Lib.hid fun k hk => hI.out.2.2.1.lt hk
          clear hG hI
          have HO : Hid (∀ o, (wc.alloc o).ownsRow 0 40 4 (.slice A m cc) m (L.flatMap stc)) := by
            refine Lib.hid fun o => ?_
            have h := stepsAgree HS.out.1 (w' := wc.alloc o) (fun q hq => Below.heap_alloc _ _ _ (HS.out.1.lt hq))
            unfold Steps at h
            rwa [← HM.out.2.1] at h
          by_cases hk : k = 0
          · subst hk
            obtain ⟨C0, C1, C2, hck, hadd⟩ := HC.out
            have d0 : ∀ q, (wc.drewN q).cell? (ad.add i) = some (.int .u8 (r0 : Int)) := fun q => hck _ (HS.out.2.2.2.1.drewN q) _ _ C0
            have d1 : ∀ q, (wc.drewN q).cell? ⟨ad.block, ad.off + (i + 1), none⟩ = some (.int .u8 (r1 : Int)) := fun q => by rw [← hadd]; exact hck _ (HS.out.2.2.2.1.drewN q) _ _ C1
            clear C0 C1 C2 hck hadd
            have b1 : (0 : Int) ≤ (i : Int) := by omega
            have b2 : (i : Int) < (n : Int) := by omega
            have b3 : IntKind.i64.wrap ((i : Int) + 1) = (i : Int) + 1 := IntWalk.i64_in _ (by omega)
            have b4 : (0 : Int) ≤ (i : Int) + 1 := by omega
            have b5 : (i : Int) + 1 < (n : Int) := by omega
            obtain ⟨ta, hta, htaw⟩ : ∃ ta : Nat, ta < 256 ∧ IntKind.u8.wrap ((r1 : Int) / 9) = (ta : Int) := ⟨r1 / 9, by omega, by rw [IntKind.wrap_u8]; omega⟩
            obtain ⟨tb, htb, htbw⟩ : ∃ tb : Nat, tb < 256 ∧ IntKind.u8.wrap ((r0 : Int) / 8) = (tb : Int) := ⟨r0 / 8, by omega, by rw [IntKind.wrap_u8]; omega⟩
            have hab : ta * tb < 65536 := by
              calc ta * tb ≤ 255 * 255 := Nat.mul_le_mul (by omega) (by omega)
                _ < 65536 := by omega
            obtain ⟨tc, htc, htcw⟩ : ∃ tc : Nat, tc < 65536 ∧ IntKind.i64.wrap ((ta : Int) * (tb : Int)) = (tc : Int) := ⟨ta * tb, hab, by rw [IntWalk.i64_in _ (by constructor <;> (have : (ta : Int) * (tb : Int) = ((ta * tb : Nat) : Int) := by simp) <;> omega)]; simp⟩
            obtain ⟨td, htd, htdw⟩ : ∃ td : Nat, td < 64 ∧ Int.tmod (tc : Int) 64 = (td : Int) := ⟨tc % 64, by omega, by rw [Int.tmod_eq_emod_of_nonneg (by omega)]; omega⟩
            have hwa : IntKind.i64.wrap (ta : Int) = (ta : Int) := IntWalk.i64_in _ (by omega)
            have hwb : IntKind.i64.wrap (tb : Int) = (tb : Int) := IntWalk.i64_in _ (by omega)
            have hwe : IntKind.i64.wrap (1 + (td : Int)) = 1 + (td : Int) := IntWalk.i64_in _ (by omega)
            have hkb : ((0 : Int) != 0) = false := rfl
            go_wp2_with fail
            go_quiet (fail)
            clear d0 d1 b1 b2 b3 b4 b5 htaw htbw hab htcw hwa hwb
            have HS1 : Hid (ScI w (wc.drewN nq) (.slice A m cc) L j ∧ Blk (wc.drewN nq) g 40 #[.int .i64 ((0 : Nat) : Int), .int .i64 (x : Int), .int .i64 (y : Int), .int .u64 0]) := by
              obtain ⟨h1, h2, h3, h4, h5⟩ := HS.out
              exact Lib.hid ⟨⟨stepsAgree h1 (fun _ _ => rfl), h2, h3, h4.drewN nq, h5⟩, HW.out.1.drewN nq⟩
            have HWg : Hid (wr.heap.size ≤ g ∧ w.heap.size ≤ wr.heap.size) := Lib.hid ⟨HW.out.2, HCr.out⟩
            clear HS HO HW hb0 hb1 hb2 hb3 hf3
            generalize wc.drewN nq = w0 at HS1 ⊢
            go_wp2_with fail
            go_loopw [3, 75] (fun s3 s75 w' => ∃ (A : Option Addr) (m cc q : Nat) (L : List St), s3 = .slice A m cc ∧ s75 = .int .i64 (q : Int) ∧ q ≤ 1 + td ∧ m ≤ 5120 ∧ Hid (Steps w' (.slice A m cc) L ∧ m = L.length ∧ L.length ≤ 64 * j + q ∧ (∀ s, s ∈ L → GoodSt s) ∧ Chg [] w w' ∧ (∀ g, (Value.slice A m cc).ownBlock = some g → w.heap.size ≤ g) ∧ (Value.slice A m cc).ownBlock ≠ some g ∧ ∃ h : Nat, Blk w' g 40 #[.int .i64 0, .int .i64 (x : Int), .int .i64 (y : Int), .int .u64 (h : Int)])) (fun _ s75 _ => 1 + td - (intOf s75).toNat)
            case atStart =>
              obtain ⟨⟨h1, h2, h3, h4, h5⟩, hbg⟩ := HS1.out
              refine ⟨A, m, cc, 0, L, rfl, rfl, by omega, by omega, h1, HM.out.2.1, by omega, h3, h4, h5, fun he => ?_, 0, hbg⟩
              have h6 := HLt.out _ he
              have h7 := HWg.out.1
              omega
            case round =>
              obtain ⟨A2, m2, cc2, q, L2, rfl, rfl, hq, hm2, hI2⟩ := hrel
              by_cases hqt : q < 1 + td
              · obtain ⟨h, hbg⟩ := hI2.out.2.2.2.2.2.2.2
                have hb0 := hbg.cell 0
                have hb1 := hbg.cell 1
                have hb2 := hbg.cell 2
                have hb3 := hbg.cell 3
                have hf3 := hbg.frozen 3
                simp at hb0 hb1 hb2 hb3
                obtain ⟨C0, C1, C2, hck, hadd⟩ := HC.out
                have d2 : wr.cell? ⟨ad.block, ad.off + (i + 2), none⟩ = some (.int .u8 (r2 : Int)) := by rw [← hadd]; exact hck _ hI2.out.2.2.2.2.1 _ _ C2
                have HH : Hid (Calls Tryz.prog 10 #[.int .i64 ((r2 : Int) * 20 + (q : Int))] wr (SomeU wr)) := by
                  have h := hash_any wr (r2 * 20 + q) (by omega)
                  exact Lib.hid (by simpa using h)
                have HOW : Hid (∀ (u : Value) (o : Obj), ((wr.setCell ⟨g, 3, none⟩ u).alloc o).ownsRow 0 40 4 (.slice A2 m2 cc2) m2 (L2.flatMap stc)) := by
                  refine Lib.hid fun u o => ?_
                  have h1 := hI2.out.1
                  have h2 : Steps ((wr.setCell ⟨g, 3, none⟩ u).alloc o) (.slice A2 m2 cc2) L2 := stepsAgree h1 fun k hk => by
                    have hne : k ≠ g := fun e => hI2.out.2.2.2.2.2.2.1 (e ▸ hk)
                    rw [Below.heap_alloc _ _ _ (by simpa using h1.lt hk)]
                    exact Below.heap_setCell _ _ _ _ hne
                  unfold Steps at h2
                  rwa [← hI2.out.2.1] at h2
                have HBG := Lib.hid hbg
                clear C0 C1 C2 hck hadd hbg
                have b1 : (0 : Int) ≤ (i : Int) + 2 := by omega
                have b5 : (i : Int) + 2 < (n : Int) := by omega
                go_wp2_with (first
                  | (go_at_call 10; go_must (refine HH.out.mono ?_); rintro e w' ⟨hx, rfl, hhx, rfl⟩; have HX := Lib.hid hhx; clear hhx)
                  | (at_builtin; go_must (refine wpAppS _ rfl _ _ rfl (.slice A2 m2 cc2) m2 (L2.flatMap stc) rfl (HOW.out _ _) ⟨wr.heap.size, 0, none⟩ 1 [.int .i64 0, .int .i64 (x : Int), .int .i64 (y : Int), .int .u64 (hx : Int)] rfl rfl (World.news_of_block (alloc_new' _ _ _ (by simp))) (stc_one ⟨0, x, y, hx⟩) (by omega) ?_); intro g3 cap3 w3 ho3 hg3 hat3; have W := Lib.hid (And.intro ho3 (And.intro hg3 hat3)); clear ho3 hg3 hat3))
                go_roundw
                case rel =>
                  obtain ⟨ho3, hg3, hat3⟩ := W.out
                  obtain ⟨h1, hm, h2, h3, h4, h5, h6, _⟩ := hI2.out
                  have hwg := HWg.out
                  have hj80 := HM.out.2.2
                  have hge : w.heap.size ≤ g := by omega
                  have hglt := HBG.out.lt
                  refine ⟨some ⟨g3, 0, none⟩, m2 + 1, cap3, q + 1, L2 ++ [⟨0, x, y, hx⟩], rfl, by go_num, by omega, by omega, Steps.snoc (by rw [← hm]; exact ho3), by rw [List.length_append, hm]; rfl, by rw [List.length_append]; simp; omega, ?_, ((h4.setCell (.inr hge) _).alloc _).grown hg3 (fun k hk => .inr (h5 k hk)), ?_, ?_, hx, ?_⟩
                  · intro s hs
                    rcases List.mem_append.1 hs with hs | hs
                    · exact h3 s hs
                    · rw [List.mem_singleton] at hs
                      subst hs
                      exact ⟨by omega, hx3, hy3, hxy, HX.out⟩
                  · intro k hk
                    simp only [Value.ownBlock, Option.some.injEq] at hk
                    subst hk
                    rcases hat3 with e | e
                    · exact h5 _ e
                    · simp at e; omega
                  · intro e
                    simp only [Value.ownBlock, Option.some.injEq] at e
                    subst e
                    rcases hat3 with e | e
                    · exact h6 e
                    · simp at e; omega
                  · have h7 := ((HBG.out.set_ 3 (.int .u64 (hx : Int))).alloc (.cells #[.int .i64 0, .int .i64 (x : Int), .int .i64 (y : Int), .int .u64 (hx : Int)] 40)).grown hg3 (fun e => h6 e.symm)
                    simpa using h7
                case measure => simp [intOf]; omega
              · go_wp2_with fail
                obtain ⟨h1, hm, h2, h3, h4, h5, h6, _⟩ := hI2.out
                have hj80 := HM.out.2.2
                have hi3 := HM.out.1
                exact ⟨⟨A2, j + 1, i + 3, m2, cc2, L2, rfl, by go_num, by omega, by omega, hm, h1, by omega, h3, h4, h5⟩, by simp [intOf]; omega⟩
          · have hkb : ((k : Int) != 0) = true := by simp; omega
            go_wp2_with (at_builtin; go_must (refine wpAppS _ rfl _ _ rfl (.slice A m cc) m (L.flatMap stc) rfl (HO.out _) ⟨wc.heap.size, 0, none⟩ 1 [.int .i64 (k : Int), .int .i64 (x : Int), .int .i64 (y : Int), .int .u64 0] rfl rfl (World.news_of_block (heap_alloc_new _ _)) (stc_one ⟨k, x, y, 0⟩) (by omega) ?_); intro g3 cap3 w3 ho3 hg3 hat3; have W := Lib.hid (And.intro ho3 (And.intro hg3 hat3)); clear ho3 hg3 hat3)
            obtain ⟨ho3, hg3, hat3⟩ := W.out
            obtain ⟨h1, h2, h3, h4, h5⟩ := HS.out
            have hm := HM.out.2.1
            have hj80 := HM.out.2.2
            have hi3 := HM.out.1
            have hcr := HCr.out
            have hz := h4.size
            refine ⟨⟨some ⟨g3, 0, none⟩, j + 1, i + 3, m + 1, cap3, L ++ [⟨k, x, y, 0⟩], rfl, by go_num, by omega, by omega, by rw [List.length_append, hm]; rfl, Steps.snoc (by rw [← hm]; exact ho3), by rw [List.length_append]; simp; omega, ?_, (h4.alloc _).grown hg3 (fun k hk => .inr (h5 k hk)), ?_⟩, by simp [intOf]; omega⟩
            · intro s hs
              rcases List.mem_append.1 hs with hs | hs
              · exact h3 s hs
              · rw [List.mem_singleton] at hs
                subst hs
                exact ⟨hk4, hx3, hy3, hxy, by simp⟩
            · intro q hq
              simp only [Value.ownBlock, Option.some.injEq] at hq
              subst hq
              rcases hat3 with e | e
              · exact h5 _ e
              · simp at e; omega
    · have HN := Lib.hid h1
      clear h1
      by_cases h1 : i + 2 < n
      · have hb : (decide ((i : Int) < 240)) = false := decide_eq_false (by have := HN.out; omega)
        go_wp2_with fail
        go_ret
        obtain ⟨hi3, hm, h1, h2, h3, h4, h5⟩ := hI.out
        exact ⟨_, L, rfl, h1, by omega, h3, h4, h5⟩
      · go_wp2_with fail
        go_ret
        obtain ⟨hi3, hm, h1, h2, h3, h4, h5⟩ := hI.out
        exact ⟨_, rfl, L, h1, by omega, h3, h4, h5⟩

set_option maxHeartbeats 4000000 in
/-- .. of nothing. -/
theorem script_nil (w : World) : Calls Tryz.prog 4 #[.slice none 0 0] w fun e w' => ∃ v L, e = .returned v ∧ Steps w' v L ∧ L.length ≤ 5120 ∧ (∀ s, s ∈ L → GoodSt s) ∧ Chg [] w w' ∧ (∀ g, v.ownBlock = some g → w.heap.size ≤ g) := by
  go_enter Tryz.func4, Tryz.ntmps4
  go_wp2_with fail
  go_loopw [3, 4] (fun s3 s4 wr => s3 = .slice none 0 0 ∧ s4 = .int .i64 0 ∧ wr = w) (fun _ _ _ => 0)
  case atStart => exact ⟨rfl, rfl, rfl⟩
  case round =>
    obtain ⟨rfl, rfl, rfl⟩ := hrel
    go_wp2_with fail
    go_ret
    exact ⟨_, [], rfl, Steps.nil _, by simp, (fun s hs => by cases hs), Chg.refl _ _, fun g hg => by cases hg⟩
end Go.Proofs.YtgoliddhhichgaaGreatDoor
