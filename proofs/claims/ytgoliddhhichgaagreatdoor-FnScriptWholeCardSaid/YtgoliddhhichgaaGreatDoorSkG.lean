/- The walk of InsertHash. -/
import Derived.Test.YtgoliddhhichgaaGreatDoorSkF
import Derived.Test.YtgoliddhhichgaaGreatDoorSkAA
namespace Go.Proofs.YtgoliddhhichgaaGreatDoor
open Go.RowKit Pl

theorem encode_nat (x p : Nat) (w : World) (hx : x < 18446744073709551616) (h4 : 4 ≤ p) (h10 : p ≤ 10) :
    Calls Tryz.prog 29 #[.int .u64 (x : Int), .int .u8 (p : Int), .int .u8 25] w fun e w' => e = .returned (.int .u32 ((enc p x : Nat) : Int)) ∧ w = w' := by
  have := encodeHash_any (x : Int) (p : Int) w (by omega) (by omega) (by omega) (by omega)
  simpa using this
theorem posval_nat (x p : Nat) (w : World) (hx : x < 18446744073709551616) (h4 : 4 ≤ p) (h10 : p ≤ 10) :
    Calls Tryz.prog 31 #[.int .u64 (x : Int), .int .u8 (p : Int)] w fun e w' => e = .returned (.tuple #[.int .u64 ((pos p x : Nat) : Int), .int .u8 ((val p x : Nat) : Int)]) ∧ w = w' := by
  have := getPosVal_any (x : Int) (p : Int) w (by omega) (by omega) (by omega) (by omega)
  simpa using this
theorem KeysOf.insert {p : Nat} {H : Nat → Prop} {T L : List Nat} (h : KeysOf p H (fun k => k ∈ T ∨ k ∈ L)) (x : Nat) : KeysOf p (fun y => H y ∨ y = x) (fun k => k ∈ ins T (enc p x) ∨ k ∈ L) := by
  intro k
  simp only [mem_ins]
  constructor
  · rintro ((hk | rfl) | hk)
    · obtain ⟨y, hy, e⟩ := (h k).1 (.inl hk); exact ⟨y, .inl hy, e⟩
    · exact ⟨x, .inr rfl, rfl⟩
    · obtain ⟨y, hy, e⟩ := (h k).1 (.inr hk); exact ⟨y, .inl hy, e⟩
  · rintro ⟨y, hy | rfl, e⟩
    · rcases (h k).2 ⟨y, hy, e⟩ with h1 | h1
      · exact .inl (.inl h1)
      · exact .inr h1
    · exact .inl (.inr e.symm)

set_option maxHeartbeats 4000000 in
set_option maxRecDepth 100000 in
/-- (*Sketch).InsertHash: a sparse sketch. -/
theorem insertSparse_any (w : World) (b p : Nat) (F T L : List Nat) (H : Nat → Prop) (x : Nat) (h4 : 4 ≤ p) (h10 : p ≤ 10) (h : SkAt w b F p (.sparse T L)) (hsay : Says p H (.sparse T L)) (hH : Hs H) (hx : x < 18446744073709551616) :
    Calls Tryz.prog 12 #[.pointer (some ⟨b, 0, none⟩), .int .u64 (x : Int)] w (Left w b F p (fun y => H y ∨ y = x)) := by
  have hskat := h
  obtain ⟨al, bt, Ft, bl, Fl, hb, hs, hl, hF, hFn⟩ := h
  have c0 := hb.cell 0
  have c3 := hb.cell 3
  have c4 := hb.cell 4
  have hlt := hb.lt
  simp at c0 c3 c4
  have hp0 : ((p : Int) == 0) = false := by simp; omega
  obtain ⟨k, hk⟩ : ∃ k, k = enc p x := ⟨_, rfl⟩
  have hk32 : k < 4294967296 := by rw [hk]; exact enc_lt p x hx
  have henc : ∀ W, Calls Tryz.prog 29 #[.int .u64 (x : Int), .int .u8 (p : Int), .int .u8 25] W fun e w' => e = .returned (.int .u32 (k : Int)) ∧ W = w' := fun W => by rw [hk]; exact encode_nat x p W hx h4 h10
  have hTn : T.length ≤ 10 := by
    have h1 := hsay.2.1
    have h2 : 2 ^ p ≤ 2 ^ 10 := Nat.pow_le_pow_right (by omega) h10
    omega
  have hadd := fun W (hW : SetAt W bt Ft T) => sadd_any W bt Ft T k hW hk32 (by omega)
  have X := Lib.hid (And.intro hskat (And.intro hb (And.intro hs (And.intro hl (And.intro hF (And.intro hFn (And.intro hsay (And.intro hH hk))))))))
  have HE := Lib.hid henc
  have HA := Lib.hid hadd
  clear hskat hb hs hl hF hFn hsay hH hk henc hadd
  have hsp := sparse_any w b (some ⟨bl, 0, none⟩) c4
  have HS := Lib.hid hsp
  clear hsp c4
  go_enter Tryz.func12, Tryz.ntmps12
  go_wp2_with fail
  refine HS.out.mono ?_
  rintro e w' ⟨rfl, rfl⟩
  simp only [Option.isSome_some]
  go_wp2_with fail
  go_region_held3 (fun w' => w'.cell? ⟨b, 3, none⟩ = some (.pointer (some ⟨bt, 0, none⟩)) ∧ w'.cell? ⟨b, 0, none⟩ = some (.int .u8 (p : Int))) (first | exact hKeep | go_keep)
    (first
      | (go_at_call 29; go_must (refine (HE.out _).mono ?_); rintro e w' ⟨rfl, rfl⟩)
      | (go_at_call 28; go_must (refine (HA.out _ (show SetAt w.drew bt Ft T from X.out.2.2.1.agree (fun _ _ => rfl))).mono ?_); rintro e w2 ⟨Ft', rfl, hs2, hc2, hg2⟩; have hb2 := (X.out.2.1.drew.chg hc2 (fun hm => by have hn := X.out.2.2.2.2.2.1; rw [X.out.2.2.2.2.1] at hn; simp [hm] at hn)); have x3 := hb2.cell 3; have x0 := hb2.cell 0; simp at x3 x0; have hKeep : w2.cell? ⟨b, 3, none⟩ = some (.pointer (some ⟨bt, 0, none⟩)) ∧ w2.cell? ⟨b, 0, none⟩ = some (.int .u8 (p : Int)) := ⟨x3, x0⟩; have Y := Lib.hid (And.intro hs2 (And.intro hc2 (And.intro hg2 hb2))); clear hs2 hc2 hg2 hb2))
  have hsk2 : SkAt w2 b (b :: (Ft' ++ Fl)) p (.sparse (ins T k) L) ∧ Chg F w w2 ∧ Grew w F (b :: (Ft' ++ Fl)) := by
    obtain ⟨hskat, hb, hs, hl, hF, hFn, hsay, hH, hk⟩ := X.out
    obtain ⟨hs2, hc2, hg2, hb2⟩ := Y.out
    rw [hF, List.nodup_cons, List.mem_append, List.nodup_append] at hFn
    obtain ⟨hn1, hn2, hn3, hn4⟩ := hFn
    have hgk : ∀ k, k ∈ Ft' → k ∈ Ft ∨ w.heap.size ≤ k := fun k hk => (hg2 k hk).imp id (fun h => by simpa using h)
    refine ⟨SkAt.mk hb2 hs2 (hl.agree fun k hk => ?_) ?_ (fun h => hn1 (.inr h)) (fun k hk hkl => ?_), ?_, ?_⟩
    · exact (hc2.same (by simpa using hl.lt k hk) (fun hm => hn4 k hm k hk rfl)).trans rfl
    · intro hm
      rcases hgk b hm with h | h
      · exact hn1 (.inl h)
      · omega
    · rcases hgk k hk with h | h
      · exact hn4 k h k hkl rfl
      · have := hl.lt k hkl; omega
    · refine ((Chg.refl F w).drew).trans hc2 (fun k hk => .inl (by rw [hF]; simp [hk]))
    · intro k hk
      rw [hF]
      rcases List.mem_cons.1 hk with rfl | hk
      · exact .inl (by simp)
      · rcases List.mem_append.1 hk with hk | hk
        · rcases hgk k hk with h | h
          · exact .inl (by simp [h])
          · exact .inr h
        · exact .inl (by simp [hk])
  have Z := Lib.hid hsk2
  clear hsk2 hKeep c0 c3
  have hkeys := X.out.2.2.2.2.2.2.1.2.2.2.insert x
  rw [← X.out.2.2.2.2.2.2.2.2] at hkeys
  have HK := Lib.hid hkeys
  clear hkeys
  by_cases hkT : k ∈ T
  · have hbb : (!decide (k ∈ T)) = false := by simp [hkT]
    have HKT := Lib.hid hkT
    rw [hbb]
    clear hkT hbb
    go_wp2_with fail
    refine bodyPost_ret (results_none rfl _ _ _) rfl ?_
    obtain ⟨h1, hc2, hg2⟩ := Z.out
    have e : ins T k = T := if_pos HKT.out
    have hK := HK.out
    rw [e] at h1 hK
    exact ⟨_, rfl, ⟨_, h1, X.out.2.2.2.2.2.2.1.1, X.out.2.2.2.2.2.2.1.2.1, X.out.2.2.2.2.2.2.1.2.2.1, hK⟩, hc2, hg2⟩
  · have hbb : (!decide (k ∈ T)) = true := by simp [hkT]
    rw [hbb]
    clear hkT hbb
    go_wp2_with fail
    refine (maybe_any w2 b p _ (ins T k) L (fun y => H y ∨ y = x) h4 h10 Z.out.1 X.out.2.2.2.2.2.2.1.1 X.out.2.2.2.2.2.2.1.2.2.1 HK.out (fun y hy => by rcases hy with hy | rfl; exact X.out.2.2.2.2.2.2.2.1 y hy; exact hx) (by have := ins_len T k; omega)).mono ?_
    rintro e w3 ⟨F3, rfl, hsk3, hc3, hg3⟩
    have U := Lib.hid (And.intro hsk3 (And.intro hc3 hg3))
    clear hsk3 hc3 hg3
    go_wp2_with fail
    refine bodyPost_ret (results_none rfl _ _ _) rfl ?_
    obtain ⟨hsk3, hc3, hg3⟩ := U.out
    obtain ⟨_, hc2, hg2⟩ := Z.out
    have hz := hc2.size
    refine ⟨F3, rfl, hsk3, hc2.trans hc3 hg2, fun k hk => ?_⟩
    rcases hg3 k hk with h | h
    · exact hg2 k h
    · exact .inr (by omega)

set_option maxHeartbeats 4000000 in
set_option maxRecDepth 100000 in
/-- (*Sketch).InsertHash: a dense sketch. -/
theorem insertDense_any (w : World) (b p : Nat) (F R : List Nat) (H : Nat → Prop) (x : Nat) (h4 : 4 ≤ p) (h10 : p ≤ 10) (h : SkAt w b F p (.dense R)) (hsay : Says p H (.dense R)) (hx : x < 18446744073709551616) :
    Calls Tryz.prog 12 #[.pointer (some ⟨b, 0, none⟩), .int .u64 (x : Int)] w (Left w b F p (fun y => H y ∨ y = x)) := by
  have hskat := h
  obtain ⟨al, v, hb, ho, hR, h256, hF, hFn⟩ := h
  have c0 := hb.cell 0
  have c4 := hb.cell 4
  have c5 := hb.cell 5
  have hlt := hb.lt
  have hp0 : ((p : Int) == 0) = false := by simp; omega
  have hM1 : 2 ^ p ≤ 2 ^ 10 := Nat.pow_le_pow_right (by omega) h10
  obtain ⟨pi, hpi⟩ : ∃ pi, pi = pos p x := ⟨_, rfl⟩
  obtain ⟨pv, hpv⟩ : ∃ pv, pv = val p x := ⟨_, rfl⟩
  have hpil : pi < 2 ^ p := by rw [hpi]; exact pos_lt p x h10 hx
  have hpvl : pv < 256 := by rw [hpv]; have := val_le p x; omega
  have hposval : ∀ W, Calls Tryz.prog 31 #[.int .u64 (x : Int), .int .u8 (p : Int)] W fun e w' => e = .returned (.tuple #[.int .u64 (pi : Int), .int .u8 (pv : Int)]) ∧ W = w' := fun W => by rw [hpi, hpv]; exact posval_nat x p W hx h4 h10
  obtain ⟨g, cc, rfl⟩ : ∃ g c, v = .slice (some ⟨g, 0, none⟩) R.length c := by
    rcases own_form ho with ⟨_, h0, _⟩ | ⟨g, c, h0, _⟩
    · have := Nat.two_pow_pos p; rw [List.length_map] at h0; omega
    · exact ⟨g, c, by simpa using h0⟩
  simp at c0 c4 c5
  have hsp := sparse_any w b none c4
  have HS := Lib.hid hsp
  have HP := Lib.hid hposval
  have hpi32 : pi < 4294967296 := by omega
  have hins := fun W hc hB => insert_own W b g R.length cc pi pv R hc hB rfl (by omega) h256
  have X := Lib.hid (And.intro hskat (And.intro hb (And.intro ho (And.intro hR (And.intro h256 (And.intro hF (And.intro hFn (And.intro hsay (And.intro hpi hpv)))))))))
  have HI := Lib.hid hins
  clear hskat hb ho hF hFn hsay hpi hpv hposval hsp hins c4 h256
  obtain ⟨rl, hrl⟩ : ∃ rl, rl = R.length := ⟨_, rfl⟩
  rw [← hrl] at c5
  have HRL := Lib.hid hrl
  clear hrl hR
  go_enter Tryz.func12, Tryz.ntmps12
  go_wp2_with fail
  refine HS.out.mono ?_
  rintro e w' ⟨rfl, rfl⟩
  simp only [Option.isSome_none]
  go_wp2_with fail
  refine (HP.out _).mono ?_
  rintro e w' ⟨rfl, rfl⟩
  go_wp2_with fail
  have hinst := HI.out w (by rw [← HRL.out]; exact c5) (by have := X.out.2.2.1; unfold Own at this; rwa [List.length_map] at this)
  refine hinst.mono ?_
  clear hinst
  rintro e w2 ⟨rfl, ho2, hc2⟩
  have Y := Lib.hid (And.intro ho2 hc2)
  clear ho2 hc2
  go_wp2_with fail
  go_end0
  obtain ⟨ho2, hc2⟩ := Y.out
  obtain ⟨hskat, hb, ho, hR, h256, hF, hFn, hsay, hpi, hpv⟩ := X.out
  have hbg : b ≠ g := by
    rintro rfl
    exact own_ne ho hb (by decide) rfl
  refine ⟨F, rfl, ⟨.dense (upd R pi pv), ⟨al, .slice (some ⟨g, 0, none⟩) R.length cc, hb.chg hc2 (by simpa using hbg), ?_, by rw [upd_len, hR], upd_lt R pi pv hpvl h256, hF, hFn⟩, ?_⟩, hc2.mono (fun k hk => by rw [hF]; simp at hk; subst hk; simp [Value.ownBlock]), fun k hk => .inl hk⟩
  · unfold Own
    rw [List.length_map, upd_len]
    exact ho2
  · show IsReg _ _ _
    rw [hpi, hpv]
    exact IsReg.add hsay hR x (by rw [← hpi]; exact hpil)
/-- (*Sketch).InsertHash. -/
theorem insert_any (w : World) (b p : Nat) (F : List Nat) (H : Nat → Prop) (x : Nat) (h4 : 4 ≤ p) (h10 : p ≤ 10) (h : Sk w b F p H) (hH : Hs H) (hx : x < 18446744073709551616) :
    Calls Tryz.prog 12 #[.pointer (some ⟨b, 0, none⟩), .int .u64 (x : Int)] w (Left w b F p (fun y => H y ∨ y = x)) := by
  obtain ⟨rep, hsk, hsay⟩ := h
  cases rep with
  | sparse T L => exact insertSparse_any w b p F T L H x h4 h10 hsk hsay hH hx
  | dense R => exact insertDense_any w b p F R H x h4 h10 hsk hsay hx
end Go.Proofs.YtgoliddhhichgaaGreatDoor
