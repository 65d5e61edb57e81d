/- The walk of maybeToNormal. -/
import Derived.Test.YtgoliddhhichgaaGreatDoorSkE
import Derived.Test.YtgoliddhhichgaaGreatDoorReg
namespace Go.Proofs.YtgoliddhhichgaaGreatDoor
open Go.RowKit Pl

theorem regs_says {p : Nat} {H : Nat → Prop} {L : List Nat} (h4 : 4 ≤ p) (h10 : p ≤ 10) (hH : Hs H) (hk : KeysOf p H (· ∈ L)) : IsReg p H (regsD p L) := by
  have := IsReg.keys (L := L) h4 h10 (IsReg.zero p) (by simp) hH hk
  exact this.congr (fun x => by simp)

theorem SkAt.mk {w : World} {b p al bt bl : Nat} {Ft T Fl L : List Nat} (hb : Blk w b 59 #[.int .u8 (p : Int), .int .u32 ((2 ^ p : Nat) : Int), .float .f64 al, .pointer (some ⟨bt, 0, none⟩), .pointer (some ⟨bl, 0, none⟩), .slice none 0 0]) (hs : SetAt w bt Ft T) (hl : ListAt w bl Fl L)
    (hbt : b ∉ Ft) (hbl : b ∉ Fl) (hd : ∀ k, k ∈ Ft → k ∉ Fl) : SkAt w b (b :: (Ft ++ Fl)) p (.sparse T L) := by
  have h1 : Ft.Nodup := by obtain ⟨_, _, _, _, _, _, _, _, h⟩ := hs; exact h
  have h2 : Fl.Nodup := by obtain ⟨_, _, _, _, _, h⟩ := hl; exact h
  refine ⟨al, bt, Ft, bl, Fl, hb, hs, hl, rfl, ?_⟩
  rw [List.nodup_cons, List.mem_append, List.nodup_append]
  exact ⟨fun h => h.elim hbt hbl, h1, h2, fun a ha c hc e => hd a ha (e ▸ hc)⟩

/-- A sketch is left that says H; the blocks. -/
def Left (w : World) (b : Nat) (F : List Nat) (p : Nat) (H : Nat → Prop) (e : Ending) (w' : World) : Prop :=
  ∃ F', e = .returned (.tuple #[]) ∧ Sk w' b F' p H ∧ Chg F w w' ∧ Grew w F F'

set_option maxHeartbeats 4000000 in
set_option maxRecDepth 100000 in
/-- (*Sketch).maybeToNormal. -/
theorem maybe_any (w : World) (b p : Nat) (F T L : List Nat) (H : Nat → Prop) (h4 : 4 ≤ p) (h10 : p ≤ 10) (h : SkAt w b F p (.sparse T L)) (hL : SInc L) (hbL : (bytesOf L).length ≤ 2 ^ p) (hk : KeysOf p H (fun k => k ∈ T ∨ k ∈ L)) (hH : Hs H)
    (hTn : T.length < 100000) :
    Calls Tryz.prog 30 #[.pointer (some ⟨b, 0, none⟩)] w (Left w b F p H) := by
  have hskat := h
  obtain ⟨al, bt, Ft, bl, Fl, hb, hs, hl, hF, hFn⟩ := h
  have c3 := hb.cell 3
  have c1 := hb.cell 1
  have hlt := hb.lt
  obtain ⟨M, hM⟩ : ∃ M, M = 2 ^ p := ⟨_, rfl⟩
  have hM1 : M ≤ 1024 := by rw [hM]; exact Nat.pow_le_pow_right (n := 2) (by omega) h10
  have hbL2 := hbL
  rw [← hM] at hbL2
  have hLn : L.length ≤ 1024 := by have := (bytesFrom_len 0 L).1; have : (bytesOf L).length ≤ M := hbL2; show L.length ≤ _; unfold bytesOf at this; omega
  simp at c3 c1
  have c1' : w.cell? ⟨b, 1, none⟩ = some (.int .u32 (M : Int)) := by rw [c1, hM]; simp
  have hnd := hFn
  rw [hF] at hnd
  have hbt : b ∉ Ft := fun h => by simp [h] at hnd
  have hbl : b ∉ Fl := fun h => by simp [h] at hnd
  have hw0 : IntKind.u32.wrap (T.length : Int) = (T.length : Int) := by simp [IntKind.wrap, IntKind.signed, IntKind.bits]; omega
  have hw1 : IntKind.u32.wrap ((T.length : Int) * 100) = (T.length : Int) * 100 := by simp [IntKind.wrap, IntKind.signed, IntKind.bits]; omega
  have X := Lib.hid (And.intro hskat (And.intro hb (And.intro hs (And.intro hl (And.intro hF (And.intro hbt (And.intro hbl (And.intro hL (And.intro hk (And.intro hH (And.intro hM hbL)))))))))))
  clear hskat hb hs hl hF hFn hnd hL hk hH hM hbL c1 hbt hbl
  go_enter Tryz.func30, Tryz.ntmps30
  go_wp2_with fail
  go_region_held3 (fun w' => w'.cell? ⟨b, 3, none⟩ = some (.pointer (some ⟨bt, 0, none⟩)) ∧ w'.cell? ⟨b, 1, none⟩ = some (.int .u32 (M : Int))) (first | go_keep)
    (first
      | (go_at_call 53; go_must (refine (len53_any _ bt Ft T (show SetAt w.drew bt Ft T from X.out.2.2.1.agree (fun _ _ => rfl))).mono ?_); rintro e wx ⟨rfl, hwx⟩; subst hwx))
  obtain ⟨w1, hw1⟩ : ∃ w1, w1 = (w.alloc (.cells #[.pointer (some ⟨bt, 0, none⟩)] 56)).drew := ⟨_, rfl⟩
  rw [← hw1]
  have hc1 : Chg [] w w1 := by rw [hw1]; exact ((Chg.refl _ _).alloc _).drew
  have HC1 := Lib.hid hc1
  clear hc1 hw1 hw0 c3 c1'
  by_cases hbig : M < T.length * 100
  · have hdec : decide ((M : Int) < (T.length : Int) * 100) = true := by simp; omega
    have hT : Hid (T ≠ []) := by intro e; rw [e] at hbig; simp at hbig
    go_wp2_with fail
    refine (mergeSparse_any w1 b p al bt Ft T bl Fl L (.slice none 0 0) (X.out.2.1.chg HC1.out (by simp)) (X.out.2.2.1.chg HC1.out (by simp)) (X.out.2.2.2.1.chg HC1.out (by simp)) X.out.2.2.2.2.2.1 X.out.2.2.2.2.2.2.2.1 hT.out (by omega) (by omega)).mono ?_
    rintro e w2 ⟨b3, F3, O, Ft', rfl, hb2, hs2, hl2, hO, hm, hn, hc2, hg2, hF3, hd⟩
    have c4 := hb2.cell 4
    have c1 := hb2.cell 1
    simp at c4 c1
    have c1' : w2.cell? ⟨b, 1, none⟩ = some (.int .u32 (M : Int)) := by rw [c1, X.out.2.2.2.2.2.2.2.2.2.2.1]; simp
    obtain ⟨bn, hbn⟩ : ∃ bn, bn = (bytesOf O).length := ⟨_, rfl⟩
    have hbn5 : bn < 1000000 := by rw [hbn]; have := (bytesFrom_len 0 O).2; show (bytesFrom 0 O).length < _; omega
    have h55 : ∀ n, Calls Tryz.prog 55 #[.pointer (some ⟨b3, 0, none⟩)] (w2.drewN n) fun e w' => e = .returned (.int .i64 (bn : Int)) ∧ w' = w2.drewN n := fun n => by rw [hbn]; exact llen_any _ b3 F3 O (hl2.drewN n)
    have hw3 : IntKind.u32.wrap (bn : Int) = (bn : Int) := by simp [IntKind.wrap, IntKind.signed, IntKind.bits]; omega
    have Y := Lib.hid (And.intro hb2 (And.intro hs2 (And.intro hl2 (And.intro hO (And.intro hm (And.intro hn (And.intro hc2 (And.intro hg2 (And.intro hF3 (And.intro hd hbn))))))))))
    have H55 := Lib.hid h55
    clear hb2 hs2 hl2 hO hm hn hc2 hg2 hF3 hd hbn c1 h55
    go_wp2_with fail
    go_quiet ((go_at_call 55; exact Calls.quiet_of_same (H55.out _)))
    clear hw3 c4 c1'
    have hbw := X.out.2.1.lt
    have hfin : Chg F w w2 ∧ b ∉ Ft' ∧ b ∉ F3 ∧ (∀ k, k ∈ Ft' → k ∈ F ∨ w.heap.size ≤ k) ∧ (∀ k, k ∈ F3 → w.heap.size ≤ k) ∧ KeysOf p H (fun k => k ∈ O) := by
      obtain ⟨hb2, hs2, hl2, hO, hm, hn, hc2, hg2, hF3, hd, hbn⟩ := Y.out
      obtain ⟨hskat, hb, hs, hl, hF, hbt, hbl, hL, hk, hH, hM, hbL⟩ := X.out
      have hz1 := HC1.out.size
      refine ⟨?_, ?_, ?_, ?_, ?_, ?_⟩
      · exact (HC1.out.mono (by simp)).trans hc2 (fun k hk => .inl (by rw [hF]; simp at hk ⊢; rcases hk with rfl | hk; exact .inl rfl; exact .inr (.inl hk)))
      · intro h
        rcases hg2 b h with h | h
        · exact hbt h
        · omega
      · intro h
        have := hF3 b h
        omega
      · intro k hk
        rcases hg2 k hk with h | h
        · exact .inl (by rw [hF]; simp [h])
        · exact .inr (by omega)
      · intro k hk
        have := hF3 k hk
        omega
      · exact hk.congr (fun k => by rw [hm k]; exact Or.comm) (fun _ => Iff.rfl)
    have HF := Lib.hid hfin
    clear hfin
    by_cases hbig2 : M < bn
    · go_wp2_with fail
      obtain ⟨hb2, hs2, hl2, hO, hm, hn, hc2, hg2, hF3, hd, hbn⟩ := Y.out
      refine (toNormal_any _ b p al bt Ft' [] b3 F3 O h4 h10 (hb2.drewN nq) (hs2.agree fun _ _ => rfl) (hl2.drewN nq) HF.out.2.1 HF.out.2.2.1 hO (by simp) (by omega)).mono ?_
      clear hb2 hs2 hl2 hO hm hn hc2 hg2 hF3 hd hbn
      rintro e w3 ⟨F', L', rfl, hsk, hmem, hc3, hF'⟩
      have Z := Lib.hid (And.intro hsk (And.intro hmem (And.intro hc3 hF')))
      clear hsk hmem hc3 hF'
      go_wp2_with fail
      go_end0
      obtain ⟨hsk, hmem, hc3, hF'⟩ := Z.out
      obtain ⟨hcw, hbt', hbl', hft, hf3, hkO⟩ := HF.out
      have hz := hcw.size
      refine ⟨F', rfl, ⟨_, hsk, regs_says h4 h10 X.out.2.2.2.2.2.2.2.2.2.1 (hkO.congr (fun k => by rw [hmem k]; simp) (fun _ => Iff.rfl))⟩, ?_, ?_⟩
      · refine (hcw.drewN _).trans hc3 (fun k hk => ?_)
        rcases List.mem_cons.1 hk with rfl | hk
        · exact .inl X.out.1.mem
        · exact hft k hk
      · intro k hk
        rcases hF' k hk with rfl | h
        · exact .inl X.out.1.mem
        · exact .inr (by simp at h; omega)
    · go_wp2_with fail
      go_end0
      obtain ⟨hb2, hs2, hl2, hO, hm, hn, hc2, hg2, hF3, hd, hbn⟩ := Y.out
      obtain ⟨hcw, hbt', hbl', hft, hf3, hkO⟩ := HF.out
      refine ⟨_, rfl, ⟨.sparse [] O, SkAt.mk (hb2.drewN nq) (hs2.agree fun _ _ => rfl) (hl2.drewN nq) hbt' hbl' hd, hO, by simp, ?_, hkO.congr (fun k => by simp) (fun _ => Iff.rfl)⟩, hcw.drewN _, ?_⟩
      · rw [← hbn, ← X.out.2.2.2.2.2.2.2.2.2.2.1]; omega
      · intro k hk
        rcases List.mem_cons.1 hk with rfl | hk
        · exact .inl X.out.1.mem
        · rcases List.mem_append.1 hk with hk | hk
          · exact hft k hk
          · exact .inr (hf3 k hk)
  · have hdec : decide ((M : Int) < (T.length : Int) * 100) = false := by simp; omega
    have hsm : Hid (T.length * 100 ≤ M) := Lib.hid (by omega)
    go_wp2_with fail
    go_end0
    obtain ⟨hskat, hb, hs, hl, hF, hbt, hbl, hL, hk, hH, hM, hbL⟩ := X.out
    exact ⟨F, rfl, ⟨.sparse T L, hskat.chg HC1.out (by simp), hL, by rw [← hM]; exact hsm.out, hbL, hk⟩, HC1.out.mono (by simp), fun k hk => .inl hk⟩
end Go.Proofs.YtgoliddhhichgaaGreatDoor
