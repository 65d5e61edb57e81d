/- The walk of impl.regs. -/
import Derived.Test.YtgoliddhhichgaaGreatDoorZzB
import Derived.Test.YtgoliddhhichgaaGreatDoorSkF
namespace Go.Proofs.YtgoliddhhichgaaGreatDoor
open Go.RowKit Pl

set_option maxHeartbeats 400000 in
set_option maxRecDepth 100000 in
/-- ZZDense of a sparse sketch. -/
theorem zzDense_any (w : World) (b p : Nat) (F T L : List Nat) (H : Nat → Prop) (h4 : 4 ≤ p) (h10 : p ≤ 10) (h : SkAt w b F p (.sparse T L)) (hsay : Says p H (.sparse T L)) (hH : Hs H) :
    Calls Tryz.prog 46 #[.pointer (some ⟨b, 0, none⟩)] w fun e w' => e = .returned (.tuple #[]) ∧ ∃ F' R, SkAt w' b F' p (.dense R) ∧ IsReg p H R ∧ Chg F w w' ∧ Grew w F F' := by
  have hmem := h.mem
  obtain ⟨al, bt, Ft, bl, Fl, hb, hs, hl, hF, hFn⟩ := h
  have h2p : 2 ^ p ≤ 2 ^ 10 := Nat.pow_le_pow_right (by omega) h10
  have hTn : T.length < 1000000 := by have := hsay.2.1; omega
  have hLn : L.length < 1000000 := by
    have h1 := (bytesFrom_len 0 L).1
    have h3 := hsay.2.2.1
    unfold bytesOf at h3
    omega
  have c4 := hb.cell 4
  simp at c4
  have hnd := hFn
  rw [hF, List.nodup_cons, List.mem_append] at hnd
  have HS := Lib.hid (sparse_any w b (some ⟨bl, 0, none⟩) c4)
  have HT := Lib.hid (toNormal_any w b p al bt Ft T bl Fl L h4 h10 hb hs hl (fun h => hnd.1 (.inl h)) (fun h => hnd.1 (.inr h)) hsay.1 hTn hLn)
  have X := Lib.hid (And.intro hmem (And.intro hF (And.intro hsay hH)))
  clear hb hs hl hF hFn hnd hsay hH hmem c4 hTn hLn h2p
  go_enter Tryz.func46, Tryz.ntmps46
  go_wp2_with fail
  refine HS.out.mono ?_
  rintro e w' ⟨rfl, rfl⟩
  simp only [Option.isSome_some]
  go_wp2_with fail
  refine HT.out.mono ?_
  rintro e w2 ⟨F', L', rfl, hsk, hm, hc, hg⟩
  have Y := Lib.hid (And.intro hsk (And.intro hm (And.intro hc hg)))
  clear hsk hm hc hg
  go_wp2_with fail
  go_end0
  obtain ⟨hsk, hm, hc, hg⟩ := Y.out
  obtain ⟨hmem, hF, hsay, hH⟩ := X.out
  refine ⟨rfl, F', regsD p L', hsk, regs_says h4 h10 hH (hsay.2.2.2.congr (fun k => by rw [hm k]; exact Or.comm) (fun _ => Iff.rfl)), hc.mono (fun k hk => ?_), fun k hk => ?_⟩
  · rcases List.mem_cons.1 hk with rfl | hk
    · exact hmem
    · rw [hF]; simp [hk]
  · rcases hg k hk with rfl | h
    · exact .inl hmem
    · exact .inr h

/-- What regs hands back. -/
def RgOut (w : World) (F : List Nat) (p : Nat) (H : Nat → Prop) (e : Ending) (w' : World) : Prop :=
  ∃ v R, e = .returned v ∧ IsReg p H R ∧ R.length = 2 ^ p ∧ Own w' 5 v (R.map vU8) ∧ Chg F w w' ∧ (∀ g, v.ownBlock = some g → w.heap.size ≤ g) ∧ (∀ r, r ∈ R → r < 256)

set_option maxHeartbeats 1000000 in
set_option maxRecDepth 100000 in
/-- impl.regs. -/
theorem regs_any (w : World) (b p : Nat) (F : List Nat) (H : Nat → Prop) (h4 : 4 ≤ p) (h10 : p ≤ 10) (h : Sk w b F p H) (hH : Hs H) :
    Calls Tryz.prog 17 #[.pointer (some ⟨b, 0, none⟩)] w (RgOut w F p H) := by
  obtain ⟨rep, hsk, hsay⟩ := h
  have h2p : 2 ^ p ≤ 2 ^ 10 := Nat.pow_le_pow_right (by omega) h10
  have h2p0 := Nat.two_pow_pos p
  -- what is left to do once the sketch is dense
  cases rep with
  | dense R =>
    have HZ := Lib.hid (fun W (hc : Chg [] w W) => zzD_any W b p F R h10 (hsk.chg hc (by simp)))
    have hR2 : R.length = 2 ^ p ∧ (∀ r, r ∈ R → r < 256) := by obtain ⟨_, _, _, _, hR, h256, _⟩ := hsk; exact ⟨hR, h256⟩
    have HR : Hid (IsReg p H R ∧ R.length = 2 ^ p ∧ (∀ r, r ∈ R → r < 256)) := Lib.hid ⟨hsay, hR2⟩
    obtain ⟨M, hM⟩ : ∃ M, M = R.length := ⟨_, rfl⟩
    have hM0 : 0 < M := by rw [hM, hR2.1]; exact h2p0
    have hM1 : M ≤ 1024 := by rw [hM, hR2.1]; exact h2p
    have HM := Lib.hid hM
    clear hsk hsay hH hR2 hM h2p h2p0
    go_enter Tryz.func17, Tryz.ntmps17
    go_wp2_with fail
    refine (HZ.out w (Chg.refl _ _)).mono ?_
    rintro e w1 ⟨v0, v1, v2, rfl, hc1, _, _⟩
    have HC1 := Lib.hid hc1
    clear hc1
    go_wp2_with fail
    refine (HZ.out w1 HC1.out).mono ?_
    rintro e w2 ⟨y0, y1, y2, rfl, hc2, ho2, hl2⟩
    have HCW : Hid (Chg F w w2) := Lib.hid ((HC1.out.trans hc2 (by simp)).mono (by simp))
    clear hc2 hl2
    obtain ⟨g2, c2, rfl⟩ : ∃ g c, y2 = .slice (some ⟨g, 0, none⟩) M c := by
      rcases own_form ho2 with ⟨_, h0, _⟩ | ⟨g, c, h0, _⟩
      · rw [List.length_map, ← HM.out] at h0; omega
      · exact ⟨g, c, by rw [HM.out]; simpa using h0⟩
    have ho2' : w2.ownsRow 0 5 1 (.slice (some ⟨g2, 0, none⟩) M c2) M (R.map vU8) := by unfold Own at ho2; rwa [List.length_map, ← HM.out] at ho2
    have hb0 : (w2.alloc (.cells #[] 5)).ownsRow 0 5 1 (.slice (some ⟨w2.heap.size, 0, none⟩) 0 0) 0 [] := Blk.own (n := 0) (Blk.new w2 5 #[]) rfl (by unfold maxLen; omega)
    obtain ⟨news, hnews⟩ : ∃ news, news = R.map vU8 := ⟨_, rfl⟩
    rw [← hnews] at ho2'
    have hnl : Hid (news.length = M) := by show _ = _; rw [hnews, HM.out]; simp
    have hn1 : Hid (∀ u ∈ news, u.oneCell' = true) := by show ∀ u ∈ news, _; rw [hnews]; intro v hv; obtain ⟨a, _, rfl⟩ := List.mem_map.1 hv; rfl
    have HB0 := Lib.hid hb0
    have HO := Lib.hid (And.intro ho2' hnews)
    clear ho2 ho2' hnews hb0
    go_wp2_with (at_builtin; go_must (refine wpApp A22 _ rfl _ _ rfl (.slice (some ⟨w2.heap.size, 0, none⟩) 0 0) 0 [] rfl HB0.out ⟨g2, 0, none⟩ M c2 news rfl hnl.out (row_cells (own_agree HO.out.1 (fun g hg => Below.heap_alloc _ _ _ (own_lt HO.out.1 hg)))) hn1.out (by omega) (by omega) (by omega) ?_); intro g3 cap3 w3 ho3 hg3 hat3 _; have W := Lib.hid (And.intro ho3 (And.intro hg3 hat3)); clear ho3 hg3 hat3)
    go_ret
    obtain ⟨ho3, hg3, hat3⟩ := W.out
    have ho3' : w3.ownsRow 0 5 1 (.slice (some ⟨g3, 0, none⟩) M cap3) M news := by simpa using ho3
    rw [HO.out.2] at ho3'
    have hz := HCW.out.size
    refine ⟨.slice (some ⟨g3, 0, none⟩) M cap3, R, rfl, HR.out.1, HR.out.2.1, ?_, (HCW.out.alloc _).grown hg3 (fun g hg => .inr (by simp [Value.ownBlock] at hg; omega)), fun g hg => ?_, HR.out.2.2⟩
    · unfold Own
      rw [List.length_map, ← HM.out]
      exact ho3'
    · simp [Value.ownBlock] at hg
      subst hg
      rcases hat3 with e | e
      · simp [Value.ownBlock] at e; omega
      · simp at e; omega
  | sparse T L =>
    have hTn : T.length < 1000000 := by have := hsay.2.1; omega
    have hLn : L.length < 100000 := by
      have h1 := (bytesFrom_len 0 L).1
      have h3 := hsay.2.2.1
      unfold bytesOf at h3
      omega
    have HZ := Lib.hid (zzS_any w b p F T L hsk hTn hLn)
    have HDN := Lib.hid (fun W (hc : Chg [] w W) => zzDense_any W b p F T L H h4 h10 (hsk.chg hc (by simp)) hsay hH)
    clear hsk hsay hH hTn hLn
    go_enter Tryz.func17, Tryz.ntmps17
    go_wp2_with fail
    refine HZ.out.mono ?_
    rintro e w1 ⟨v0, v1, v2, rfl, hc1⟩
    have HC1 := Lib.hid hc1
    clear hc1
    go_wp2_with fail
    refine (HDN.out w1 HC1.out).mono ?_
    rintro e wd ⟨rfl, Fd, R, hskd, hreg, hcd, hgd⟩
    have HZ2 := Lib.hid (zzD_any wd b p Fd R h10 hskd)
    have hR2 : R.length = 2 ^ p ∧ (∀ r, r ∈ R → r < 256) := by obtain ⟨_, _, _, _, hR, h256, _⟩ := hskd; exact ⟨hR, h256⟩
    have HR : Hid (IsReg p H R ∧ R.length = 2 ^ p ∧ (∀ r, r ∈ R → r < 256)) := Lib.hid ⟨hreg, hR2⟩
    obtain ⟨M, hM⟩ : ∃ M, M = R.length := ⟨_, rfl⟩
    have hM0 : 0 < M := by rw [hM, hR2.1]; exact h2p0
    have hM1 : M ≤ 1024 := by rw [hM, hR2.1]; exact h2p
    have HM := Lib.hid hM
    have HCD : Hid (Chg F w wd) := Lib.hid ((HC1.out.mono (by simp)).trans hcd (fun k hk => .inl hk))
    clear hskd hreg hcd hgd hR2 hM h2p h2p0
    go_wp2_with fail
    refine HZ2.out.mono ?_
    rintro e w2 ⟨y0, y1, y2, rfl, hc2, ho2, hl2⟩
    have HCW : Hid (Chg F w w2) := Lib.hid (HCD.out.trans hc2 (by simp))
    clear hc2 hl2
    obtain ⟨g2, c2, rfl⟩ : ∃ g c, y2 = .slice (some ⟨g, 0, none⟩) M c := by
      rcases own_form ho2 with ⟨_, h0, _⟩ | ⟨g, c, h0, _⟩
      · rw [List.length_map, ← HM.out] at h0; omega
      · exact ⟨g, c, by rw [HM.out]; simpa using h0⟩
    have ho2' : w2.ownsRow 0 5 1 (.slice (some ⟨g2, 0, none⟩) M c2) M (R.map vU8) := by unfold Own at ho2; rwa [List.length_map, ← HM.out] at ho2
    have hb0 : (w2.alloc (.cells #[] 5)).ownsRow 0 5 1 (.slice (some ⟨w2.heap.size, 0, none⟩) 0 0) 0 [] := Blk.own (n := 0) (Blk.new w2 5 #[]) rfl (by unfold maxLen; omega)
    obtain ⟨news, hnews⟩ : ∃ news, news = R.map vU8 := ⟨_, rfl⟩
    rw [← hnews] at ho2'
    have hnl : Hid (news.length = M) := by show _ = _; rw [hnews, HM.out]; simp
    have hn1 : Hid (∀ u ∈ news, u.oneCell' = true) := by show ∀ u ∈ news, _; rw [hnews]; intro v hv; obtain ⟨a, _, rfl⟩ := List.mem_map.1 hv; rfl
    have HB0 := Lib.hid hb0
    have HO := Lib.hid (And.intro ho2' hnews)
    clear ho2 ho2' hnews hb0
    go_wp2_with (at_builtin; go_must (refine wpApp A22 _ rfl _ _ rfl (.slice (some ⟨w2.heap.size, 0, none⟩) 0 0) 0 [] rfl HB0.out ⟨g2, 0, none⟩ M c2 news rfl hnl.out (row_cells (own_agree HO.out.1 (fun g hg => Below.heap_alloc _ _ _ (own_lt HO.out.1 hg)))) hn1.out (by omega) (by omega) (by omega) ?_); intro g3 cap3 w3 ho3 hg3 hat3 _; have W := Lib.hid (And.intro ho3 (And.intro hg3 hat3)); clear ho3 hg3 hat3)
    go_ret
    obtain ⟨ho3, hg3, hat3⟩ := W.out
    have ho3' : w3.ownsRow 0 5 1 (.slice (some ⟨g3, 0, none⟩) M cap3) M news := by simpa using ho3
    rw [HO.out.2] at ho3'
    have hz := HCW.out.size
    refine ⟨.slice (some ⟨g3, 0, none⟩) M cap3, R, rfl, HR.out.1, HR.out.2.1, ?_, (HCW.out.alloc _).grown hg3 (fun g hg => .inr (by simp [Value.ownBlock] at hg; omega)), fun g hg => ?_, HR.out.2.2⟩
    · unfold Own
      rw [List.length_map, ← HM.out]
      exact ho3'
    · simp [Value.ownBlock] at hg
      subst hg
      rcases hat3 with e | e
      · simp [Value.ownBlock] at e; omega
      · simp at e; omega
end Go.Proofs.YtgoliddhhichgaaGreatDoor
