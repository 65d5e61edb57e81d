/- The walks of UnmarshalBinary's helpers. The walk of the list's unmarshal. The walk of unmarshalBinaryV2. The walk of UnmarshalBinary: a sparse sketch. The walk of UnmarshalBinary: a dense sketch. -/
import Derived.Test.YtgoliddhhichgaaGreatDoorListC
import Derived.Test.YtgoliddhhichgaaGreatDoorSkE
import Derived.Laws.CopyOwn
import Derived.Test.YtgoliddhhichgaaGreatDoorListD
import Derived.Test.YtgoliddhhichgaaGreatDoorReg
import Derived.Test.YtgoliddhhichgaaGreatDoorMarA
import Derived.Test.YtgoliddhhichgaaGreatDoorNew
/-! ### The walks of UnmarshalBinary's helpers. -/
namespace Go.Proofs.YtgoliddhhichgaaGreatDoor
open Go.RowKit Pl

theorem or_step (a b i : Nat) (ha : a < 2 ^ i) (hb : 2 ^ i * b < 4294967296) (hi : 2 ^ i * b + a < 4294967296) : bits BinOp.or IntKind.u32 (a : Int) ((2 ^ i * b : Nat) : Int) = ((2 ^ i * b + a : Nat) : Int) := by
  rw [u32_or_nat a (2 ^ i * b) (by omega) hb, Nat.or_comm, ← Nat.two_pow_add_eq_or_of_lt ha]
theorem or4 (b0 b1 b2 b3 : Nat) (k0 : b0 < 256) (k1 : b1 < 256) (k2 : b2 < 256) (k3 : b3 < 256) :
    bits BinOp.or IntKind.u32 (bits BinOp.or IntKind.u32 (bits BinOp.or IntKind.u32 (b3 : Int) ((b2 : Int) * 256)) ((b1 : Int) * 65536)) ((b0 : Int) * 16777216) = ((b3 + b2 * 256 + b1 * 65536 + b0 * 16777216 : Nat) : Int) := by
  have h1 := or_step b3 b2 8 (by omega) (by omega) (by omega)
  have e1 : (((2 ^ 8 * b2 : Nat)) : Int) = (b2 : Int) * 256 := by omega
  rw [e1] at h1
  have h2 := or_step (2 ^ 8 * b2 + b3) b1 16 (by omega) (by omega) (by omega)
  have e2 : (((2 ^ 16 * b1 : Nat)) : Int) = (b1 : Int) * 65536 := by omega
  rw [e2] at h2
  have h3 := or_step (2 ^ 16 * b1 + (2 ^ 8 * b2 + b3)) b0 24 (by omega) (by omega) (by omega)
  have e3 : (((2 ^ 24 * b0 : Nat)) : Int) = (b0 : Int) * 16777216 := by omega
  rw [e3] at h3
  rw [h1, h2, h3]
  congr 1
  omega

set_option maxHeartbeats 400000 in
set_option maxRecDepth 100000 in
/-- beUint32. -/
theorem be32_read (w : World) (g o n c k : Nat) (h4 : 4 ≤ n) (hk : k < 4294967296) (hc : ∀ i b, (be32 k)[i]? = some b → w.cell? ⟨g, o + i, none⟩ = some (vU8 b)) :
    Calls Tryz.prog 38 #[.slice (some ⟨g, o, none⟩) n c] w fun e w' => e = .returned (.int .u32 (k : Int)) ∧ ∃ m, w' = w.drewN m := by
  obtain ⟨b0, hb0⟩ : ∃ b, b = k / 16777216 % 256 := ⟨_, rfl⟩
  obtain ⟨b1, hb1⟩ : ∃ b, b = k / 65536 % 256 := ⟨_, rfl⟩
  obtain ⟨b2, hb2⟩ : ∃ b, b = k / 256 % 256 := ⟨_, rfl⟩
  obtain ⟨b3, hb3⟩ : ∃ b, b = k % 256 := ⟨_, rfl⟩
  have c0 := hc 0 b0 (by rw [hb0]; rfl)
  have c1 := hc 1 b1 (by rw [hb1]; rfl)
  have c2 := hc 2 b2 (by rw [hb2]; rfl)
  have c3 := hc 3 b3 (by rw [hb3]; rfl)
  simp only [vU8, Nat.add_zero] at c0 c1 c2 c3
  have k0 : b0 < 256 := by omega
  have k1 : b1 < 256 := by omega
  have k2 : b2 < 256 := by omega
  have k3 : b3 < 256 := by omega
  have hn0 : (0 : Int) < (n : Int) := by omega
  have hn1 : (1 : Int) < (n : Int) := by omega
  have hn2 : (2 : Int) < (n : Int) := by omega
  have hn3 : (3 : Int) < (n : Int) := by omega
  have X := Lib.hid (And.intro hb0 (And.intro hb1 (And.intro hb2 (And.intro hb3 hc))))
  clear hb0 hb1 hb2 hb3 hc
  go_enter Tryz.func38, Tryz.ntmps38
  go_wp2_with fail
  go_quiet (fail)
  go_wp2
  refine bodyPost_ret (v := .int .u32 (k : Int)) ?_ rfl ⟨rfl, _, rfl⟩
  obtain ⟨hb0, hb1, hb2, hb3, _⟩ := X.out
  have e := or4 b0 b1 b2 b3 k0 k1 k2 k3
  have e2 : (b3 + b2 * 256 + b1 * 65536 + b0 * 16777216 : Nat) = k := by omega
  rw [e2] at e
  simp [results, Tryz.results38, go_sem, e]

set_option maxHeartbeats 400000 in
set_option maxRecDepth 100000 in
/-- exactLen, where the lengths agree. -/
theorem exactLen_any (w : World) (s : ByteArray) (n : Int) : Calls Tryz.prog 42 #[.string s, .int .u64 n, .int .u64 n] w fun e w' => e = .returned .nilIface ∧ w = w' := by
  go_enter Tryz.func42, Tryz.ntmps42
  go_wp2
  go_ret
  exact ⟨rfl, rfl⟩

/-- copy of n bytes over a whole new row. -/
theorem copy_whole (w : World) (dT sT ty : TypeId) (hu : Tryz.prog.underlying dT = some (.slice 5)) (gn n cc : Nat) (zs cs : List Value) (ad : Addr) (hg : Blk w gn 5 zs.toArray) (hz : zs.length = n) (hc : cs.length = n)
    (hsrc : ∀ j v, cs[j]? = some v → w.cell? (ad.add j) = some v) (h1 : ∀ v ∈ cs, v.oneCell' = true) :
    ∃ w', (Builtin.copy_ #[dT, sT] ty #[.slice (some ⟨gn, 0, none⟩) n n, .slice (some ad) n cc]).run Tryz.prog w = .ok (.int .i64 (n : Int)) w' ∧ Blk w' gn 5 cs.toArray ∧ Below gn w w' := by
  have hsz : (Tryz.prog.info? 5).map (·.size) = some 1 := by kernel_rfl
  have hrun := run_copy_row (P := Tryz.prog) w dT sT ty 5 gn 0 n n ad n cc zs.toArray 5 cs hu hsz hg (by rw [hc]; exact (Nat.min_self _).symm) hsrc (by simp; omega) h1
  have e : (zs.toArray.toList.take 0 ++ cs ++ zs.toArray.toList.drop (0 + cs.length)).toArray = cs.toArray := by
    rw [List.take_zero, List.drop_eq_nil_of_le (by simp; omega)]
    simp
  rw [e, hc] at hrun
  exact ⟨w.setRow gn cs.toArray, hrun, setRow_heap w gn zs.toArray cs.toArray 5 (0, 0) hg, below_setRow (Below.refl gn w) (Nat.le_refl _) _⟩
end Go.Proofs.YtgoliddhhichgaaGreatDoor

/-! ### The walk of the list's unmarshal. -/
namespace Go.Proofs.YtgoliddhhichgaaGreatDoor
open Go.RowKit Pl

/-- The bytes xs lie at ⟨g, o ..⟩. -/
def BytesAt (w : World) (g o : Nat) (xs : List Nat) : Prop := ∀ i b, xs[i]? = some b → w.cell? ⟨g, o + i, none⟩ = some (vU8 b)
theorem BytesAt.left {w : World} {g o : Nat} {a c : List Nat} (h : BytesAt w g o (a ++ c)) : BytesAt w g o a := fun i b hb => h i b (by rw [List.getElem?_append_left (List.getElem?_eq_some_iff.1 hb).1]; exact hb)
theorem BytesAt.right {w : World} {g o : Nat} {a c : List Nat} (h : BytesAt w g o (a ++ c)) : BytesAt w g (o + a.length) c := fun i b hb => by
  have := h (a.length + i) b (by rw [List.getElem?_append_right (by omega)]; simpa using hb)
  rwa [Nat.add_assoc]
theorem BytesAt.agree {w w' : World} {g o : Nat} {a : List Nat} (h : BytesAt w g o a) (hg : w'.heap[g]? = w.heap[g]?) : BytesAt w' g o a := fun i b hb => (World.cell?_of_block (a := ⟨g, o + i, none⟩) hg).trans (h i b hb)

theorem check_nat (k p : Nat) (w : World) (hk : k < 4294967296) (h4 : 4 ≤ p) (h10 : p ≤ 10) (hr : decR p k ≤ 65 - p) : Calls Tryz.prog 40 #[.int .u32 (k : Int), .int .u8 (p : Int)] w fun e w' => e = .returned .nilIface ∧ w = w' :=
  checkSparseKey_any (k : Int) (p : Int) w (by omega) (by omega) (by omega) (by omega) (by simpa using hr)
theorem last_lt {L pre rest : List Nat} {k : Nat} (hL : SInc L) (h : L = pre ++ k :: rest) (hp : pre ≠ []) : pre.getLastD 0 < k := by
  rw [h] at hL
  have h1 := (List.pairwise_append.1 hL).2.2
  obtain ⟨a, ha⟩ : ∃ a, pre.getLast? = some a := by
    cases hx : pre.getLast? with
    | none => rw [List.getLast?_eq_none_iff] at hx; exact absurd hx hp
    | some a => exact ⟨a, rfl⟩
  rw [List.getLastD_eq_getLast?, ha]
  exact h1 a (List.mem_of_getLast? ha) k (by simp)

def UnL (w : World) (b : Nat) (L : List Nat) (e : Ending) (w' : World) : Prop :=
  ∃ F', e = .returned .nilIface ∧ ListAt w' b F' L ∧ Chg [b] w w' ∧ Grew w [b] F'

set_option maxHeartbeats 4000000 in
set_option maxRecDepth 100000 in
/-- (*compressedList).unmarshal. -/
theorem unL_pos (w : World) (b p : Nat) (F L : List Nat) (g o n c : Nat) (h4 : 4 ≤ p) (h10 : p ≤ 10) (h : ListAt w b F []) (hn : n = (lbytes L).length) (hnc : n ≤ c) (hd : BytesAt w g o (lbytes L)) (hgb : g ≠ b) (hgl : g < w.heap.size)
    (hL : SInc L) (hk : ∀ k, k ∈ L → k < 4294967296 ∧ decR p k ≤ 65 - p) (hb : (bytesOf L).length ≤ 5000) (hne : L ≠ []) :
    Calls Tryz.prog 41 #[.pointer (some ⟨b, 0, none⟩), .slice (some ⟨g, o, none⟩) n c, .int .u8 (p : Int)] w (UnL w b L) := by
  have hln := bytesFrom_len 0 L
  obtain ⟨cnt, hcnt⟩ : ∃ x, x = L.length := ⟨_, rfl⟩
  obtain ⟨la, hla⟩ : ∃ x, x = L.getLastD 0 := ⟨_, rfl⟩
  obtain ⟨sz, hsz⟩ : ∃ x, x = (bytesOf L).length := ⟨_, rfl⟩
  have hla32 : la < 4294967296 := by rw [hla]; exact getLastD_lt _ _ _ (by omega) (fun k hk' => (hk k hk').1)
  have hcs : cnt ≤ sz ∧ sz ≤ 5 * cnt := by rw [hcnt, hsz]; exact hln
  have hsz5 : sz ≤ 5000 := by rw [hsz]; exact hb
  have hcnt5 : cnt ≤ 5000 := by omega
  have hn12 : n = sz + 12 := by rw [hn, hsz]; simp [lbytes, be32]
  have hd2 : BytesAt w g o (be32 cnt ++ be32 la ++ (be32 sz ++ bytesOf L)) := by rw [hcnt, hla, hsz]; exact hd
  have d0 := hd2.left.left
  have d1 := hd2.left.right
  have d2 := hd2.right.left
  have d3 := hd2.right.right
  simp only [List.length_append, show ∀ x, (be32 x).length = 4 from fun _ => rfl] at d1 d2 d3
  simp only [Nat.add_assoc, Nat.reduceAdd] at d3
  obtain ⟨lv, hbl, _, _, _, _⟩ := h
  have x0 := hbl.cell 0
  have f0 := hbl.frozen 0
  simp at x0
  have r0 : ∀ W, (W.heap = w.heap) → ∀ m cc, 4 ≤ m → Calls Tryz.prog 38 #[.slice (some ⟨g, o, none⟩) m cc] W fun e w' => e = .returned (.int .u32 (cnt : Int)) ∧ ∃ m, w' = W.drewN m := fun W hW m cc hm => be32_read W g o m cc cnt hm (by omega) (d0.agree (by rw [hW]))
  have r1 : ∀ W, (W.heap = w.heap) → ∀ m cc, 4 ≤ m → Calls Tryz.prog 38 #[.slice (some ⟨g, o + 4, none⟩) m cc] W fun e w' => e = .returned (.int .u32 (la : Int)) ∧ ∃ m, w' = W.drewN m := fun W hW m cc hm => be32_read W g (o + 4) m cc la hm (by omega) (d1.agree (by rw [hW]))
  have r2 : ∀ W, (W.heap = w.heap) → ∀ m cc, 4 ≤ m → Calls Tryz.prog 38 #[.slice (some ⟨g, o + 8, none⟩) m cc] W fun e w' => e = .returned (.int .u32 (sz : Int)) ∧ ∃ m, w' = W.drewN m := fun W hW m cc hm => be32_read W g (o + 8) m cc sz hm (by omega) (d2.agree (by rw [hW]))
  have R := Lib.hid (And.intro r0 (And.intro r1 r2))
  have X := Lib.hid (And.intro hcnt (And.intro hla (And.intro hsz (And.intro hbl (And.intro d3 (And.intro hk (And.intro hL hgb)))))))
  obtain ⟨cc, rfl⟩ : ∃ cc, c = cc + 12 := ⟨c - 12, by omega⟩
  have hcc : sz ≤ cc := by omega
  subst hn12
  clear hnc
  have hcnt0 : 0 < cnt := by
    rcases Nat.eq_zero_or_pos cnt with h | h
    · exact absurd (List.eq_nil_of_length_eq_zero (by rw [← hcnt]; exact h)) hne
    · exact h
  clear hne hn hcnt hla hsz hbl d0 d1 d2 d3 hd hd2 hk hL r0 r1 r2 hln hb hgb x0 f0
  go_enter Tryz.func41, Tryz.ntmps41
  go_wp2_with fail
  have r0 : ∀ nd, Calls Tryz.prog 38 #[.slice (some ⟨g, o, none⟩) 4 (cc + 12)] (w.drewN nd) fun e w' => e = .returned (.int .u32 (cnt : Int)) ∧ ∃ m, w' = (w.drewN nd).drewN m := fun nd => R.out.1 (w.drewN nd) rfl 4 (cc + 12) (by omega)
  have R0 := Lib.hid r0
  clear r0
  go_quiet ((go_at_call 38; exact Calls.quiet_of (R0.out _)))
  obtain ⟨w1, hw1⟩ : ∃ w1, w1 = w.drewN nq := ⟨_, rfl⟩
  rw [← hw1]
  have Hw1 : Hid (w1.heap = w.heap ∧ Chg [] w w1) := Lib.hid (by rw [hw1]; exact ⟨rfl, (Chg.refl _ _).drewN _⟩)
  clear hw1
  go_wp2_with fail
  have r1 : ∀ nd, Calls Tryz.prog 38 #[.slice (some ⟨g, o + 4, none⟩) 4 (cc + 8)] (w1.drewN nd) fun e w' => e = .returned (.int .u32 (la : Int)) ∧ ∃ m, w' = (w1.drewN nd).drewN m := fun nd => R.out.2.1 (w1.drewN nd) Hw1.out.1 4 (cc + 8) (by omega)
  have R1 := Lib.hid r1
  clear r1
  go_quiet ((go_at_call 38; exact Calls.quiet_of (R1.out _)))
  obtain ⟨w2, hw2⟩ : ∃ w2, w2 = w1.drewN nq := ⟨_, rfl⟩
  rw [← hw2]
  have Hw2 : Hid (w2.heap = w.heap ∧ Chg [] w w2) := Lib.hid (by rw [hw2]; exact ⟨Hw1.out.1, Hw1.out.2.drewN _⟩)
  clear hw2
  go_wp2_with fail
  have r2 : ∀ nd, Calls Tryz.prog 38 #[.slice (some ⟨g, o + 8, none⟩) 4 (cc + 4)] (w2.drewN nd) fun e w' => e = .returned (.int .u32 (sz : Int)) ∧ ∃ m, w' = (w2.drewN nd).drewN m := fun nd => R.out.2.2 (w2.drewN nd) Hw2.out.1 4 (cc + 4) (by omega)
  have R2 := Lib.hid r2
  clear r2
  go_quiet ((go_at_call 38; exact Calls.quiet_of (R2.out _)))
  obtain ⟨w3, hw3⟩ : ∃ w3, w3 = w2.drewN nq := ⟨_, rfl⟩
  rw [← hw3]
  have Hw3 : Hid (w3.heap = w.heap ∧ Chg [] w w3) := Lib.hid (by rw [hw3]; exact ⟨Hw2.out.1, Hw2.out.2.drewN _⟩)
  clear hw3
  have hcc0 : 0 < cc := by omega
  go_wp2_with fail
  refine (exactLen_any w3 _ _).mono ?_
  rintro e w' ⟨rfl, rfl⟩
  have hc0 : ((cnt : Int) == 0) = false := by simp; omega
  have hb1 : decide ((33554432 : Int) ≤ (cnt : Int)) = false := decide_eq_false (by omega)
  obtain ⟨cs, hcs'⟩ : ∃ cs, cs = (bytesOf L).map vU8 := ⟨_, rfl⟩
  obtain ⟨zs, hzs⟩ : ∃ zs : List Value, zs = List.replicate sz (.int .u8 0) := ⟨_, rfl⟩
  have hzl : Hid (zs.length = sz) := by show _ = _; rw [hzs]; simp
  have hcl : Hid (cs.length = sz) := by show _ = _; rw [hcs', X.out.2.2.1]; simp
  have hone : Hid (∀ v ∈ cs, v.oneCell' = true) := by show ∀ v ∈ cs, _; rw [hcs']; intro v hv; obtain ⟨a, _, rfl⟩ := List.mem_map.1 hv; rfl
  have HZS := Lib.hid (And.intro hcs' hzs)
  have HSRC : Hid (∀ W, BytesAt W g (o + 12) (bytesOf L) → ∀ j v, cs[j]? = some v → W.cell? ((⟨g, o + 4 + 4 + 4, none⟩ : Addr).add j) = some v) := by
    intro W hW j v hv
    have hadd : (⟨g, o + 4 + 4 + 4, none⟩ : Addr).add j = ⟨g, o + 12 + j, none⟩ := by unfold Addr.add; split <;> simp_all
    rw [hadd]
    rw [hcs', List.getElem?_map] at hv
    cases hx : (bytesOf L)[j]? with
    | none => rw [hx] at hv; cases hv
    | some x => rw [hx] at hv; simp at hv; subst hv; exact hW j x hx
  clear hcs' hzs
  obtain ⟨gn, hgn⟩ : ∃ gn, gn = w3.heap.size := ⟨_, rfl⟩
  have HGN := Lib.hid hgn
  clear hgn
  go_wp2_with (at_make; go_must (refine wpMakeN A89 rfl _ rfl _ _ rfl .u32 .u32 sz rfl rfl (by omega) (by omega) ?_); intro w4 hr4 hg4; rw [← HGN.out] at hr4 ⊢; have hb4 : BytesAt w4 g (o + 12) (bytesOf L) := X.out.2.2.2.2.1.agree ((hg4.block g (by have := Hw3.out.2.size; omega) (by simp)).trans (by rw [Hw3.out.1])); have hr4' : Blk w4 gn 5 zs.toArray := (by rw [HZS.out.2]; exact hr4); obtain ⟨w5, hrun5, hr5, hB5⟩ := copy_whole w4 89 22 3 A89.ht gn sz cc zs cs ⟨g, o + 4 + 4 + 4, none⟩ hr4' hzl.out hcl.out (HSRC.out w4 hb4) hone.out; have Y := Lib.hid (And.intro hr5 (And.intro hB5 hg4)); clear hr4 hg4 hr5 hB5 hb4 hr4')
  have hBys : Bys w5 (.slice (some ⟨gn, 0, none⟩) sz sz) (bytesOf L) := by
    have h1 := Blk.own (n := sz) Y.out.1 hcl.out.symm (by unfold maxLen; omega)
    unfold Bys
    rw [← HZS.out.1, ← X.out.2.2.1]
    exact h1
  have HBY := Lib.hid hBys
  clear hBys hrun5
  go_loop [12, 13, 14] (fun s12 s13 s14 => ∃ (nn lb i : Nat) (pre rest : List Nat), s12 = .int .u32 (nn : Int) ∧ s13 = .int .u32 (lb : Int) ∧ s14 = .int .i64 (i : Int) ∧ Hid (nn = pre.length ∧ lb = pre.getLastD 0 ∧ i = (bytesOf pre).length ∧ L = pre ++ rest)) (fun _ _ s14 => sz - (intOf s14).toNat)
  case atStart => exact ⟨0, 0, 0, [], L, rfl, rfl, rfl, rfl, rfl, rfl, rfl⟩
  case round =>
    obtain ⟨nn, lb, i, pre, rest, rfl, rfl, rfl, hI⟩ := hrel
    rcases rest with _ | ⟨k, rest⟩
    · have hpre : L = pre := by have := hI.out.2.2.2; simpa using this
      obtain rfl : nn = cnt := by rw [hI.out.1, X.out.1, hpre]
      obtain rfl : lb = la := by rw [hI.out.2.1, X.out.2.1, hpre]
      obtain rfl : i = sz := by rw [hI.out.2.2.1, X.out.2.2.1, hpre]
      have hc5 : Chg [] w w5 := (Hw3.out.2.grown Y.out.2.2 (by simp)).thenBelow Y.out.2.1 (by rw [HGN.out]; exact Hw3.out.2.size)
      have hb5 : Blk w5 b 93 #[.int .u32 0, .int .u32 0, lv] := X.out.2.2.2.1.chg hc5 (by simp)
      have HC5 := Lib.hid hc5
      have hblt := X.out.2.2.2.1.lt
      have x0 := hb5.cell 0
      have f0 := hb5.frozen 0
      have hb6 := hb5.set_ 0 (.int .u32 (nn : Int))
      have x1 := hb6.cell 1
      have f1 := hb6.frozen 1
      have hb7 := hb6.set_ 1 (.int .u32 (lb : Int))
      have x2 := hb7.cell 2
      have f2 := hb7.frozen 2
      simp at x0 x1 x2
      have HB := Lib.hid hb7
      clear hb5 hb6 hb7 hpre hc5
      go_wp2_with fail
      go_ret
      have hblgn : b < gn := by rw [HGN.out]; have := Hw3.out.2.size; omega
      have hw3s : w.heap.size ≤ gn := by rw [HGN.out]; exact Hw3.out.2.size
      have hc6 : Chg [b] w (((w5.setCell ⟨b, 0, none⟩ (.int .u32 (nn : Int))).setCell ⟨b, 1, none⟩ (.int .u32 (lb : Int))).setCell ⟨b, 2, none⟩ (.slice (some ⟨gn, 0, none⟩) i i)) := (((HC5.out.mono (by simp)).setCell (.inl (by simp)) _).setCell (.inl (by simp)) _).setCell (.inl (by simp)) _
      refine ⟨[b, gn], rfl, ⟨.slice (some ⟨gn, 0, none⟩) i i, ?_, ?_, fun k hk => (X.out.2.2.2.2.2.1 k hk).1, by simp [Value.ownBlock], by simp; omega⟩, hc6, fun k hk => ?_⟩
      · have := HB.out.set_ 2 (.slice (some ⟨gn, 0, none⟩) i i)
        rw [← X.out.1, ← X.out.2.1]
        simpa [vU32] using this
      · have h1 := HBY.out
        unfold Bys at h1
        rw [← X.out.2.2.1] at h1
        unfold Own
        rw [List.length_map, ← X.out.2.2.1]
        exact own_agree h1 (fun g' hg' => by
          simp [Value.ownBlock] at hg'
          rw [Below.heap_setCell _ _ _ _ (by show g' ≠ b; omega), Below.heap_setCell _ _ _ _ (by show g' ≠ b; omega), Below.heap_setCell _ _ _ _ (by show g' ≠ b; omega)])
      · simp at hk
        rcases hk with rfl | rfl
        · exact .inl (by simp)
        · exact .inr hw3s
    · have hkk := X.out.2.2.2.2.2.1 k (by rw [hI.out.2.2.2]; simp)
      have hlb32 : lb < 4294967296 := by rw [hI.out.2.1]; exact getLastD_lt _ _ _ (by omega) (fun x hx => (X.out.2.2.2.2.2.1 x (by rw [hI.out.2.2.2]; simp [hx])).1)
      obtain ⟨x, hx⟩ : ∃ x, x = (k + 4294967296 - lb) % 4294967296 := ⟨_, rfl⟩
      have hx32 : x < 4294967296 := by omega
      have hdrop : (bytesOf L).drop i = vint x ++ bytesFrom k rest := by rw [hI.out.2.2.2, hI.out.2.2.1, bytesFrom_drop, hx, hI.out.2.1]
      have hvd := vdecode_any w5 _ (bytesOf L) i x _ HBY.out hdrop hx32 (by rw [← X.out.2.2.1]; omega)
      obtain ⟨i2, hi2⟩ : ∃ i2, i2 = i + (vint x).length := ⟨_, rfl⟩
      rw [← hi2] at hvd
      have hi2' : i2 = (bytesOf (pre ++ [k])).length := by
        rw [hi2, bytesOf_append, List.length_append, hI.out.2.2.1, hx, hI.out.2.1]
        simp [bytesFrom]
      have hile : i < i2 ∧ i2 ≤ sz := by
        have h1 := vint_pos x
        have h2 := bytesOf_le (pre ++ [k]) rest
        rw [show (pre ++ [k]) ++ rest = L by rw [hI.out.2.2.2]; simp, ← X.out.2.2.1, ← hi2'] at h2
        omega
      have hchk := check_nat k p w5 hkk.1 h4 h10 hkk.2
      have hnnl : nn < 5000 := by
        have := congrArg List.length hI.out.2.2.2
        rw [List.length_append, ← X.out.1, ← hI.out.1] at this
        simp at this
        omega
      have hlt : 0 < nn → lb < k := fun h => by
        rw [hI.out.2.1]
        exact last_lt X.out.2.2.2.2.2.2.1 hI.out.2.2.2 (by rintro rfl; have := hI.out.1; simp at this; omega)
      have hlbk : lb ≤ k := by
        rcases Nat.eq_zero_or_pos nn with h0 | h0
        · have hp : pre = [] := List.eq_nil_of_length_eq_zero (by rw [← hI.out.1]; exact h0)
          rw [hI.out.2.1, hp]
          simp
        · exact Nat.le_of_lt (hlt h0)
      have hsum : (lb : Int) + (x : Int) = (k : Int) := by omega
      have V := Lib.hid (And.intro hvd (And.intro hchk hi2'))
      have HLT := Lib.hid hlt
      have hk32 := hkk.1
      clear hvd hchk hi2' hi2 hx hdrop hkk hlt
      have hi3 : (i : Int) < (sz : Int) := by omega
      go_wp2_with fail
      refine V.out.1.mono ?_
      rintro e w' ⟨rfl, rfl⟩
      by_cases hn0 : 0 < nn
      · have hlk := HLT.out hn0
        go_wp2_with fail
        refine V.out.2.1.mono ?_
        rintro e w' ⟨rfl, rfl⟩
        go_wp2_with fail
        go_round
        case rel => exact ⟨nn + 1, k, i2, pre ++ [k], rest, by go_num, rfl, rfl, by rw [hI.out.1]; simp, by rw [getLastD_append_one], V.out.2.2, by rw [hI.out.2.2.2]; simp⟩
        case measure => simp [intOf]; omega
      · obtain rfl : nn = 0 := by omega
        go_wp2_with fail
        refine V.out.2.1.mono ?_
        rintro e w' ⟨rfl, rfl⟩
        go_wp2_with fail
        go_round
        case rel => exact ⟨1, k, i2, pre ++ [k], rest, rfl, rfl, rfl, by rw [List.length_append, ← hI.out.1]; rfl, by rw [getLastD_append_one], V.out.2.2, by rw [hI.out.2.2.2]; simp⟩
        case measure => simp [intOf]; omega

set_option maxHeartbeats 4000000 in
set_option maxRecDepth 100000 in
/-- (*compressedList).unmarshal of an empty list. -/
theorem unL_nil (w : World) (b p : Nat) (F : List Nat) (g o n c : Nat) (h : ListAt w b F []) (hn : n = (lbytes []).length) (hnc : n ≤ c) (hd : BytesAt w g o (lbytes [])) :
    Calls Tryz.prog 41 #[.pointer (some ⟨b, 0, none⟩), .slice (some ⟨g, o, none⟩) n c, .int .u8 (p : Int)] w (UnL w b []) := by
  have hn12 : n = 12 := by rw [hn]; rfl
  have hd2 : BytesAt w g o (be32 0 ++ be32 0 ++ (be32 0 ++ [])) := hd
  have d0 := hd2.left.left
  have d1 := hd2.left.right
  have d2 := hd2.right.left
  simp only [List.length_append, show ∀ x, (be32 x).length = 4 from fun _ => rfl] at d1 d2
  obtain ⟨lv, hbl, _, _, _, _⟩ := h
  have hbl' : Blk w b 93 #[.int .u32 0, .int .u32 0, lv] := hbl
  have hcn : ∀ (W : World) (dp sp : Option Addr) (sc : Nat), (Builtin.copy_ #[89, 22] 3 #[.slice dp 0 0, .slice sp 0 sc]).run Tryz.prog W = .ok (.int .i64 0) W := fun W dp sp sc => run_copy_none W 89 22 3 5 dp sp 0 0 0 sc A89.ht (by kernel_rfl) (by simp)
  have r0 : ∀ W, (W.heap = w.heap) → ∀ m cc, 4 ≤ m → Calls Tryz.prog 38 #[.slice (some ⟨g, o, none⟩) m cc] W fun e w' => e = .returned (.int .u32 0) ∧ ∃ m, w' = W.drewN m := fun W hW m cc hm => be32_read W g o m cc 0 hm (by omega) (d0.agree (by rw [hW]))
  have r1 : ∀ W, (W.heap = w.heap) → ∀ m cc, 4 ≤ m → Calls Tryz.prog 38 #[.slice (some ⟨g, o + 4, none⟩) m cc] W fun e w' => e = .returned (.int .u32 0) ∧ ∃ m, w' = W.drewN m := fun W hW m cc hm => be32_read W g (o + 4) m cc 0 hm (by omega) (d1.agree (by rw [hW]))
  have r2 : ∀ W, (W.heap = w.heap) → ∀ m cc, 4 ≤ m → Calls Tryz.prog 38 #[.slice (some ⟨g, o + 8, none⟩) m cc] W fun e w' => e = .returned (.int .u32 0) ∧ ∃ m, w' = W.drewN m := fun W hW m cc hm => be32_read W g (o + 8) m cc 0 hm (by omega) (d2.agree (by rw [hW]))
  have R := Lib.hid (And.intro r0 (And.intro r1 r2))
  have X := Lib.hid hbl'
  obtain ⟨cc, rfl⟩ : ∃ cc, c = cc + 12 := ⟨c - 12, by omega⟩
  subst hn12
  have hblt := hbl.lt
  clear hn hnc hbl hbl' d0 d1 d2 hd hd2 r0 r1 r2
  go_enter Tryz.func41, Tryz.ntmps41
  go_wp2_with fail
  have r0 : ∀ nd, Calls Tryz.prog 38 #[.slice (some ⟨g, o, none⟩) 4 (cc + 12)] (w.drewN nd) fun e w' => e = .returned (.int .u32 0) ∧ ∃ m, w' = (w.drewN nd).drewN m := fun nd => R.out.1 (w.drewN nd) rfl 4 (cc + 12) (by omega)
  have R0 := Lib.hid r0
  clear r0
  go_quiet ((go_at_call 38; exact Calls.quiet_of (R0.out _)))
  obtain ⟨w1, hw1⟩ : ∃ w1, w1 = w.drewN nq := ⟨_, rfl⟩
  rw [← hw1]
  have Hw1 : Hid (w1.heap = w.heap ∧ Chg [] w w1) := Lib.hid (by rw [hw1]; exact ⟨rfl, (Chg.refl _ _).drewN _⟩)
  clear hw1
  go_wp2_with fail
  have r1 : ∀ nd, Calls Tryz.prog 38 #[.slice (some ⟨g, o + 4, none⟩) 4 (cc + 8)] (w1.drewN nd) fun e w' => e = .returned (.int .u32 0) ∧ ∃ m, w' = (w1.drewN nd).drewN m := fun nd => R.out.2.1 (w1.drewN nd) Hw1.out.1 4 (cc + 8) (by omega)
  have R1 := Lib.hid r1
  clear r1
  go_quiet ((go_at_call 38; exact Calls.quiet_of (R1.out _)))
  obtain ⟨w2, hw2⟩ : ∃ w2, w2 = w1.drewN nq := ⟨_, rfl⟩
  rw [← hw2]
  have Hw2 : Hid (w2.heap = w.heap ∧ Chg [] w w2) := Lib.hid (by rw [hw2]; exact ⟨Hw1.out.1, Hw1.out.2.drewN _⟩)
  clear hw2
  go_wp2_with fail
  have r2 : ∀ nd, Calls Tryz.prog 38 #[.slice (some ⟨g, o + 8, none⟩) 4 (cc + 4)] (w2.drewN nd) fun e w' => e = .returned (.int .u32 0) ∧ ∃ m, w' = (w2.drewN nd).drewN m := fun nd => R.out.2.2 (w2.drewN nd) Hw2.out.1 4 (cc + 4) (by omega)
  have R2 := Lib.hid r2
  clear r2
  go_quiet ((go_at_call 38; exact Calls.quiet_of (R2.out _)))
  obtain ⟨w3, hw3⟩ : ∃ w3, w3 = w2.drewN nq := ⟨_, rfl⟩
  rw [← hw3]
  have Hw3 : Hid (w3.heap = w.heap ∧ Chg [] w w3) := Lib.hid (by rw [hw3]; exact ⟨Hw2.out.1, Hw2.out.2.drewN _⟩)
  clear hw3
  go_wp2_with fail
  all_goals
    refine (exactLen_any w3 _ _).mono ?_
    rintro e w' ⟨rfl, rfl⟩
    go_wp2_with (at_make; go_must (refine wpMakeN A89 rfl _ rfl _ _ rfl .u32 .u32 0 rfl rfl (by omega) (by omega) ?_); intro w4 hr4 hg4; have Y := Lib.hid (And.intro hr4 hg4); clear hr4 hg4)
    have hbw4 : Blk w4 b 93 #[.int .u32 0, .int .u32 0, lv] := X.out.chg (Hw3.out.2.grown Y.out.2 (by simp)) (by simp)
    have x0 := hbw4.cell 0
    have f0 := hbw4.frozen 0
    have hb6 := hbw4.set_ 0 (.int .u32 0)
    have x1 := hb6.cell 1
    have f1 := hb6.frozen 1
    have hb7 := hb6.set_ 1 (.int .u32 0)
    have x2 := hb7.cell 2
    have f2 := hb7.frozen 2
    simp at x0 x1 x2
    have HB := Lib.hid hb7
    clear hbw4 hb6 hb7
    refine wp_loop_rounds 1 ?_
    rw [rounds_succ]
    go_wp2_with fail
    go_ret
    have hz3 := Hw3.out.2.size
    refine ⟨[b, w3.heap.size], rfl, ⟨.slice (some ⟨w3.heap.size, 0, none⟩) 0 0, ?_, ?_, by simp, by simp [Value.ownBlock], by simp; omega⟩, ((((Hw3.out.2.grown Y.out.2 (by simp)).mono (by simp)).setCell (.inl (by simp)) _).setCell (.inl (by simp)) _).setCell (.inl (by simp)) _, fun k hk => ?_⟩
    · have := HB.out.set_ 2 (.slice (some ⟨w3.heap.size, 0, none⟩) 0 0)
      simpa [vU32] using this
    · have h1 := Blk.own (n := 0) Y.out.1 (by simp) (by unfold maxLen; omega)
      exact own_agree h1 (fun g' hg' => by
        simp [Value.ownBlock] at hg'
        rw [Below.heap_setCell _ _ _ _ (by show g' ≠ b; omega), Below.heap_setCell _ _ _ _ (by show g' ≠ b; omega), Below.heap_setCell _ _ _ _ (by show g' ≠ b; omega)])
    · simp at hk
      rcases hk with rfl | rfl
      · exact .inl (by simp)
      · exact .inr hz3
/-- (*compressedList).unmarshal. -/
theorem unL_any (w : World) (b p : Nat) (F L : List Nat) (g o n c : Nat) (h4 : 4 ≤ p) (h10 : p ≤ 10) (h : ListAt w b F []) (hn : n = (lbytes L).length) (hnc : n ≤ c) (hd : BytesAt w g o (lbytes L)) (hgb : g ≠ b) (hgl : g < w.heap.size)
    (hL : SInc L) (hk : ∀ k, k ∈ L → k < 4294967296 ∧ decR p k ≤ 65 - p) (hb : (bytesOf L).length ≤ 5000) :
    Calls Tryz.prog 41 #[.pointer (some ⟨b, 0, none⟩), .slice (some ⟨g, o, none⟩) n c, .int .u8 (p : Int)] w (UnL w b L) := by
  by_cases hne : L = []
  · subst hne
    exact unL_nil w b p F g o n c h hn hnc hd
  · exact unL_pos w b p F L g o n c h4 h10 h hn hnc hd hgb hgl hL hk hb hne
end Go.Proofs.YtgoliddhhichgaaGreatDoor

/-! ### The walk of unmarshalBinaryV2. -/
namespace Go.Proofs.YtgoliddhhichgaaGreatDoor
open Go.RowKit Pl

/-- copy of n bytes over a row that is owned. -/
theorem copy_own (w : World) (dT sT ty : TypeId) (hu : Tryz.prog.underlying dT = some (.slice 5)) (gn n c cc : Nat) (xs cs : List Value) (ad : Addr) (hg : w.ownsRow 0 5 1 (.slice (some ⟨gn, 0, none⟩) n c) n xs) (hc : cs.length = n)
    (hsrc : ∀ j v, cs[j]? = some v → w.cell? (ad.add j) = some v) (h1 : ∀ v ∈ cs, v.oneCell' = true) :
    ∃ w', (Builtin.copy_ #[dT, sT] ty #[.slice (some ⟨gn, 0, none⟩) n c, .slice (some ad) n cc]).run Tryz.prog w = .ok (.int .i64 (n : Int)) w' ∧ w'.ownsRow 0 5 1 (.slice (some ⟨gn, 0, none⟩) n c) n cs ∧ Chg [gn] w w' := by
  have hsz : (Tryz.prog.info? 5).map (·.size) = some 1 := by kernel_rfl
  rcases hg.2 with ⟨h0, _⟩ | ⟨g', cap, cur, h0, hb, hgg, hnc, hcm, hcur, htake⟩
  · cases h0
  · simp only [Value.slice.injEq, Option.some.injEq, Addr.mk.injEq] at h0
    obtain ⟨⟨rfl, _⟩, _, rfl⟩ := h0
    have hrun := run_copy_row (P := Tryz.prog) w dT sT ty 5 gn 0 n c ad n cc cur 5 cs hu hsz hgg (by rw [hc]; exact (Nat.min_self _).symm) hsrc (by rw [hc]; omega) h1
    rw [hc] at hrun
    refine ⟨_, hrun, ⟨by simpa using hc, .inr ⟨gn, c, (cur.toList.take 0 ++ cs ++ cur.toList.drop (0 + n)).toArray, rfl, hb, setRow_heap w gn cur _ 5 (0, 0) hgg, hnc, hcm, by simp [hc]; omega, by simp [hc]⟩⟩, ?_⟩
    have h2 : ∀ k, k ≠ gn → (w.setRow gn (cur.toList.take 0 ++ cs ++ cur.toList.drop (0 + n)).toArray).heap[k]? = w.heap[k]? := fun k hk => setRow_other w gn k _ hk
    exact ⟨rfl, rfl, rfl, by simp [World.setRow], fun k _ hk => h2 k (by simpa using hk)⟩

def UnV (w : World) (b p : Nat) (F R : List Nat) (e : Ending) (w' : World) : Prop := e = .returned .nilIface ∧ SkAt w' b F p (.dense R) ∧ Chg F w w'

set_option maxHeartbeats 4000000 in
set_option maxRecDepth 100000 in
/-- unmarshalBinaryV2. -/
theorem unV_any (w : World) (b p : Nat) (F Z R : List Nat) (g o n c : Nat) (h4 : 4 ≤ p) (h10 : p ≤ 10) (h : SkAt w b F p (.dense Z)) (hn : n = R.length) (hRl : R.length = 2 ^ p) (hd : BytesAt w g o R) (hR : ∀ r, r ∈ R → r ≤ 65 - p) :
    Calls Tryz.prog 44 #[.pointer (some ⟨b, 0, none⟩), .slice (some ⟨g, o, none⟩) n c] w (UnV w b p F R) := by
  obtain ⟨al, v, hb, ho, hZ, h256, hF, hFn⟩ := h
  obtain ⟨gr, cr, rfl⟩ : ∃ g c, v = .slice (some ⟨g, 0, none⟩) n c := by
    rcases own_form ho with ⟨_, h0, _⟩ | ⟨g, c, h0, _⟩
    · have := Nat.two_pow_pos p; rw [List.length_map] at h0; omega
    · exact ⟨g, c, by rw [hn, hRl, ← hZ]; simpa using h0⟩
  have hnZ : Z.length = n := by rw [hn, hRl, hZ]
  have ho' : w.ownsRow 0 5 1 (.slice (some ⟨gr, 0, none⟩) n cr) n (Z.map vU8) := by unfold Own at ho; rwa [List.length_map, hnZ] at ho
  have h2p : 2 ^ p ≤ 2 ^ 10 := Nat.pow_le_pow_right (by omega) h10
  have hn1 : n ≤ 1024 := by omega
  have c0 := hb.cell 0
  have c5 := hb.cell 5
  simp at c0 c5
  obtain ⟨w2, hrun, ho2, hc2⟩ := copy_own w 22 22 3 A22.ht gr n cr c (Z.map vU8) (R.map vU8) ⟨g, o, none⟩ ho' (by simp [hn]) (fun j u hu => by
    have hadd : (⟨g, o, none⟩ : Addr).add j = ⟨g, o + j, none⟩ := by unfold Addr.add; split <;> simp_all
    rw [hadd]
    rw [List.getElem?_map] at hu
    cases hx : R[j]? with
    | none => rw [hx] at hu; cases hu
    | some x => rw [hx] at hu; simp at hu; subst hu; exact hd j x hx) (by intro u hu; obtain ⟨a, _, rfl⟩ := List.mem_map.1 hu; rfl)
  have hbg : b ≠ gr := by rintro rfl; exact own_ne ho hb (by decide) rfl
  have hb2 := hb.chg hc2 (by simpa using hbg)
  have d5 := hb2.cell 5
  simp at d5
  have hMR := maxRho_any (p : Int) w (by omega) (by omega)
  have HMR := Lib.hid hMR
  have hcell : ∀ i r, R[i]? = some r → w2.cell? ⟨gr, i, none⟩ = some (.int .u8 ((r : Nat) : Int)) := fun i r hr => by
    have := row_cells ho2 i (vU8 r) (by rw [List.getElem?_map, hr]; rfl)
    have hadd : (⟨gr, 0, none⟩ : Addr).add i = ⟨gr, i, none⟩ := by unfold Addr.add; split <;> simp_all
    rwa [hadd] at this
  have X := Lib.hid (And.intro hb2 (And.intro ho2 (And.intro hc2 (And.intro hF (And.intro hFn (And.intro hn (And.intro hRl (And.intro hR hcell))))))))
  clear hb ho hZ h256 hF hFn hnZ ho' h2p ho2 hc2 hb2 hMR hcell hn hRl hd hR
  go_enter Tryz.func44, Tryz.ntmps44
  go_wp2_with fail
  refine HMR.out.mono ?_
  rintro e w' ⟨rfl, rfl⟩
  go_wp2_with fail
  go_loop [24] (fun s24 => ∃ i : Nat, s24 = .int .i64 (i : Int) ∧ i ≤ n) (fun s24 => n - (intOf s24).toNat)
  case atStart => exact ⟨0, rfl, by omega⟩
  case round =>
    obtain ⟨i, rfl, hi⟩ := hrel
    by_cases hlt : i < n
    · have hiR : i < R.length := by rw [← X.out.2.2.2.2.2.1]; exact hlt
      obtain ⟨r, hr⟩ : ∃ r, r = R[i] := ⟨_, rfl⟩
      have hrc := X.out.2.2.2.2.2.2.2.2 i r (by rw [hr, List.getElem?_eq_getElem hiR])
      have hrl : r ≤ 65 - p := by rw [hr]; exact X.out.2.2.2.2.2.2.2.1 _ (List.getElem_mem _)
      have hrl2 : (r : Int) ≤ 65 - (p : Int) := by omega
      clear hr hiR
      go_wp2
      go_round
      case rel => exact ⟨i + 1, by go_num, by omega⟩
      case measure => simp [intOf]; omega
    · have hge : n ≤ i := by omega
      go_wp2
      go_ret
      obtain ⟨hb2, ho2, hc2, hF, hFn, hn, hRl, hR, _⟩ := X.out
      refine ⟨rfl, ⟨al, .slice (some ⟨gr, 0, none⟩) n cr, hb2, ?_, hRl, fun r hr => by have := hR r hr; omega, hF, hFn⟩, hc2.mono (fun k hk => by rw [hF]; simp at hk; subst hk; simp [Value.ownBlock])⟩
      unfold Own
      rw [List.length_map, ← hn]
      exact ho2
end Go.Proofs.YtgoliddhhichgaaGreatDoor

/-! ### The walk of UnmarshalBinary: a sparse sketch. -/
namespace Go.Proofs.YtgoliddhhichgaaGreatDoor
open Go.RowKit Pl

/-- A sketch of nought, as 'Sketch{}' lays it. -/
def zeroSk : Array Value := #[.int .u8 0, .int .u32 0, .float .f64 0, .pointer none, .pointer none, .slice none 0 0]
/-- What UnmarshalBinary leaves. -/
def UnS (w : World) (b0 p : Nat) (rep : Rep) (e : Ending) (w' : World) : Prop := ∃ F', e = .returned .nilIface ∧ SkAt w' b0 F' p rep ∧ Chg [b0] w w' ∧ Grew w [b0] F'

/-- Memory while the keys are read. -/
def USt (w wr : World) (b1 p al bt : Nat) (Ft1 T1 : List Nat) (bl : Nat) (Fl : List Nat) : Prop :=
  Chg [] w wr ∧ Blk wr b1 59 #[.int .u8 (p : Int), .int .u32 ((2 ^ p : Nat) : Int), .float .f64 al, .pointer (some ⟨bt, 0, none⟩), .pointer (some ⟨bl, 0, none⟩), .slice none 0 0] ∧ ListAt wr bl Fl [] ∧ SetAt wr bt Ft1 T1 ∧
    w.heap.size ≤ b1 ∧ (∀ k, k ∈ Ft1 → w.heap.size ≤ k ∧ k ≠ b1 ∧ k ∉ Fl) ∧ (∀ k, k ∈ Fl → w.heap.size ≤ k ∧ k ≠ b1)
section
variable {w wr w' : World} {b1 p al bt bl : Nat} {Ft1 T1 Fl : List Nat}
theorem USt.chg (h : USt w wr b1 p al bt Ft1 T1 bl Fl) (hc : Chg [] wr w') : USt w w' b1 p al bt Ft1 T1 bl Fl := by
  obtain ⟨h1, h2, h3, h4, h5, h6, h7⟩ := h
  exact ⟨h1.trans hc (by simp), h2.chg hc (by simp), h3.chg hc (by simp), h4.chg hc (by simp), h5, h6, h7⟩
theorem USt.add (h : USt w wr b1 p al bt Ft1 T1 bl Fl) {Fn Tn : List Nat} (hs : SetAt w' bt Fn Tn) (hc : Chg Ft1 wr w') (hg : Grew wr Ft1 Fn) : USt w w' b1 p al bt Fn Tn bl Fl := by
  obtain ⟨h1, h2, h3, h4, h5, h6, h7⟩ := h
  have hz := h1.size
  refine ⟨h1.trans hc (fun k hk => .inr (h6 k hk).1), h2.chg hc (fun hk => (h6 _ hk).2.1 rfl), h3.chg hc (fun k hk hk2 => (h6 k hk2).2.2 hk), hs, h5, fun k hk => ?_, h7⟩
  rcases hg k hk with h | h
  · exact h6 k h
  · have := h2.lt
    exact ⟨by omega, by omega, fun h2 => by have := h3.lt k h2; omega⟩
end
theorem be32s_at (T : List Nat) : ∀ (j k : Nat), T[j]? = some k → ∀ (i b : Nat), (be32 k)[i]? = some b → (be32s T)[4 * j + i]? = some b := by
  induction T with
  | nil => intro j k h; simp at h
  | cons x T ih =>
    intro j k hj i b hb
    have hs : be32s (x :: T) = be32 x ++ be32s T := by simp [be32s]
    rw [hs]
    cases j with
    | zero =>
      simp at hj
      subst hj
      rw [List.getElem?_append_left (by have := (List.getElem?_eq_some_iff.1 hb).1; simpa using this)]
      simpa using hb
    | succ j =>
      rw [List.getElem?_append_right (by show 4 ≤ _; omega), show 4 * (j + 1) + i - (be32 x).length = 4 * j + i by show 4 * (j + 1) + i - 4 = _; omega]
      exact ih j k (by simpa using hj) i b hb

set_option maxHeartbeats 4000000 in
set_option maxRecDepth 100000 in
theorem unmarS_any (w : World) (b0 p g n c : Nat) (T L : List Nat) (h4 : 4 ≤ p) (h10 : p ≤ 10) (hb : Blk w b0 59 zeroSk) (hn : n = (skBytes p (.sparse T L)).length) (hnc : n ≤ c) (hd : BytesAt w g 0 (skBytes p (.sparse T L))) (hgl : g < w.heap.size) (hgb : g ≠ b0)
    (hL : SInc L) (hT : T.Nodup) (hTp : T.length ≤ 2 ^ p) (hk : ∀ k, k ∈ T ∨ k ∈ L → k < 4294967296 ∧ decR p k ≤ 65 - p) (hLb : (bytesOf L).length ≤ 5000) :
    Calls Tryz.prog 16 #[.pointer (some ⟨b0, 0, none⟩), .slice (some ⟨g, 0, none⟩) n c] w (UnS w b0 p (.sparse T L)) := by
  obtain ⟨t, ht⟩ : ∃ t, t = T.length := ⟨_, rfl⟩
  obtain ⟨M, hM⟩ : ∃ M, M = 2 ^ p := ⟨_, rfl⟩
  have hM1 : M ≤ 1024 := by rw [hM]; exact Nat.pow_le_pow_right (n := 2) (by omega) h10
  have htM : t ≤ M := by rw [ht, hM]; exact hTp
  obtain ⟨l, hl⟩ : ∃ l, l = (lbytes L).length := ⟨_, rfl⟩
  have hn2 : n = 8 + 4 * t + l := by
    rw [hn, ht, hl]
    have := be32s_len T
    simp only [skBytes, List.length_append, List.length_cons, List.length_nil, show ∀ x, (be32 x).length = 4 from fun _ => rfl]
    omega
  have hl2 : 12 ≤ l := by rw [hl]; simp [lbytes, be32]
  have hl3 : l ≤ 6000 := by rw [hl]; simp [lbytes, be32]; omega
  have hd2 : BytesAt w g 0 ([2, p, 0, 1] ++ be32 t ++ be32s T ++ lbytes L) := by rw [ht]; exact hd
  have c0 := hd2 0 2 rfl
  have c1 := hd2 1 p rfl
  have c2 := hd2 2 0 rfl
  have c3 := hd2 3 1 rfl
  simp only [Nat.zero_add, vU8] at c0 c1 c2 c3
  have dt : BytesAt w g 4 (be32 t) := by have := hd2.left.left.right; simpa using this
  have dT : BytesAt w g 8 (be32s T) := by have := hd2.left.right; simpa [be32] using this
  have dL : BytesAt w g (8 + 4 * t) (lbytes L) := by
    have := hd2.right
    have e := be32s_len T
    simp only [List.length_append, List.length_cons, List.length_nil, show ∀ x, (be32 x).length = 4 from fun _ => rfl, e, ← ht, Nat.zero_add] at this
    exact this
  have hc := checkPrecision_any (p : Int) w (by omega) (by omega)
  have hr := be32_read w g 4 4 (c - 4) t (by omega) (by omega) (fun i b hb => dt i b hb)
  have HCP := Lib.hid hc
  have HR := Lib.hid hr
  have X := Lib.hid (And.intro hb (And.intro dT (And.intro dL (And.intro ht (And.intro hM (And.intro hl (And.intro hL (And.intro hT hk))))))))
  have hn8 : (8 : Int) ≤ (n : Int) := by omega
  have hnc' : (n : Int) ≤ (c : Int) := by omega
  have hnub : (n : Int) ≤ 20000 := by omega
  have hc4 : 4 < c := by omega
  have hq1 : 8 + 4 * (t : Int) ≤ (n : Int) := by omega
  have hq2 : ¬ c = 4 := by omega
  have HN := Lib.hid hn2
  have HLB := Lib.hid hLb
  clear hb hd hd2 hL hT hTp hk ht hM hl dt dT dL hc hr hn hn2 hnc hLb
  go_enter Tryz.func16, Tryz.ntmps16
  go_wp2_with fail
  refine HCP.out.mono ?_
  rintro e w' ⟨rfl, rfl⟩
  go_wp2_with fail
  have e1 : (2 : Int) ^ p % 4294967296 = (M : Int) := by
    have : (2 : Int) ^ p = ((2 ^ p : Nat) : Int) := by simp
    rw [this, ← X.out.2.2.2.2.1]
    omega
  simp only [e1]
  refine HR.out.mono ?_
  rintro e w1 ⟨rfl, m, hw1⟩
  have H1 : Hid (w1.heap = w.heap ∧ Chg [] w w1) := Lib.hid (by rw [hw1]; exact ⟨rfl, (Chg.refl _ _).drewN _⟩)
  have HNE := Lib.hid (newNoErr_any w1 p true h4 h10)
  have hd1 : decide ((n : Int) < 8 + 4 * (t : Int)) = false := decide_eq_false (by omega)
  have hd2 : decide (M < t) = false := decide_eq_false (by omega)
  clear hw1 e1 c0 c1 c2 c3
  go_wp2_with fail
  refine HNE.out.mono ?_
  rintro e w2 ⟨b1, F1, rfl, hsk, hc2, hg2⟩
  have HF1l := Lib.hid hsk.lt
  obtain ⟨al, bt0, Ft0, bl, Fl, hb1, hs1, hl1, hF1, hF1n⟩ := hsk
  go_wp2_with fail
  refine (makeSet_any _ _).mono ?_
  rintro e w3 ⟨bt, Ft, rfl, hs3, hc3, hg3⟩
  have hb3 := hb1.chg hc3 (by simp)
  have x3 := hb3.cell 3
  have f3 := hb3.frozen 3
  simp at x3
  have Y := Lib.hid (And.intro hb3 (And.intro (hl1.chg hc3 (by simp)) (And.intro hF1 (And.intro hF1n (And.intro hc2 (And.intro hg2 (And.intro hs3 (And.intro hc3 hg3))))))))
  have Y2 : Hid (∀ k, k ∈ F1 → k < w2.heap.size) := Lib.hid HF1l.out
  clear hb1 hs1 hl1 hF1 hF1n hc2 hg2 hs3 hc3 hg3 hb3
  go_wp2_with fail
  obtain ⟨w4, hw4⟩ : ∃ w4, w4 = w3.setCell ⟨b1, 3, none⟩ (.pointer (some ⟨bt, 0, none⟩)) := ⟨_, rfl⟩
  rw [← hw4]
  have hU : USt w w4 b1 p al bt Ft [] bl Fl := by
    obtain ⟨hb3, hl3, hF1, hF1n, hc2, hg2, hs3, hc3, hg3⟩ := Y.out
    have hz1 := H1.out.2.size
    have hz2 := hc2.size
    have hF1g : ∀ k, k ∈ F1 → w1.heap.size ≤ k := fun k hk => by
      rcases hg2 k hk with h | h
      · simp at h
      · exact h
    have hFtg : ∀ k, k ∈ Ft → w2.heap.size ≤ k := fun k hk => by
      rcases hg3 k hk with h | h
      · simp at h
      · exact h
    have hb1F : b1 ∈ F1 := by rw [hF1]; simp
    have hFlF : ∀ k, k ∈ Fl → k ∈ F1 := fun k hk => by rw [hF1]; simp [hk]
    have hF1l : ∀ k, k ∈ F1 → k < w2.heap.size := Y2.out
    have hnd := hF1n
    rw [hF1, List.nodup_cons, List.mem_append, List.nodup_append] at hnd
    have hc : Chg [] w w3 := (H1.out.2.trans hc2 (by simp)).trans hc3 (by simp)
    refine ⟨by rw [hw4]; exact hc.setCell (.inr (by have := hF1g b1 hb1F; show w.heap.size ≤ b1; omega)) _, by rw [hw4]; simpa using hb3.set_ 3 (.pointer (some ⟨bt, 0, none⟩)), ?_, ?_, by have := hF1g b1 hb1F; omega, fun k hk => ?_, fun k hk => ?_⟩
    · rw [hw4]
      exact hl3.agree (fun k hk => Below.heap_setCell _ _ _ _ (by rintro rfl; exact hnd.1 (.inr hk)))
    · rw [hw4]
      exact hs3.agree (fun k hk => Below.heap_setCell _ _ _ _ (by have := hFtg k hk; have := hF1l b1 hb1F; show k ≠ b1; omega))
    · have h1 := hFtg k hk
      have h2 := hF1l b1 hb1F
      exact ⟨by omega, by omega, fun h => by have := hF1l k (hFlF k h); omega⟩
    · have h1 := hF1g k (hFlF k hk)
      exact ⟨by omega, by rintro rfl; exact hnd.1 (.inr hk)⟩
  have U := Lib.hid hU
  clear hU hw4 x3 f3 Y Y2
  go_loopw [15] (fun s15 wr => ∃ (i j : Nat) (Ft1 : List Nat), s15 = .int .i64 (i : Int) ∧ j ≤ t ∧ Hid (i = 8 + 4 * j ∧ USt w wr b1 p al bt Ft1 (T.take j) bl Fl)) (fun s15 _ => n - (intOf s15).toNat)
  case atStart => exact ⟨8, 0, Ft, rfl, by omega, rfl, by simpa using U.out⟩
  case round =>
    obtain ⟨i, j, Ft1, rfl, hj, hI⟩ := hrel
    by_cases hlt : j < t
    · have hij := hI.out.1
      have hi1 : (i : Int) < 8 + 4 * (t : Int) := by omega
      have hi2 : (i : Int) + 4 ≤ (c : Int) := by omega
      have hi3 : ¬ c = i := by omega
      have hi4 : i + 4 ≤ n := by have := HN.out; omega
      have hjT : j < T.length := by rw [← X.out.2.2.2.1]; exact hlt
      obtain ⟨k, hk⟩ : ∃ k, T[j]? = some k := ⟨T[j], List.getElem?_eq_getElem hjT⟩
      have hkk := X.out.2.2.2.2.2.2.2.2 k (.inl (List.mem_of_getElem? hk))
      have hdT : BytesAt wr g 8 (be32s T) := X.out.2.1.agree (hI.out.2.1.same hgl (by simp))
      have hrd := be32_read wr g i 4 (c - i) k (by omega) hkk.1 (fun q b hb => by
        have := hdT (4 * j + q) b (be32s_at T j k hk q b hb)
        rwa [show 8 + (4 * j + q) = i + q by omega] at this)
      have V := Lib.hid (And.intro hrd (And.intro hk hkk))
      have hk32 := hkk.1
      have HIJ := Lib.hid hij
      clear hrd hk hkk hdT hjT hij
      go_wp2_with fail
      refine V.out.1.mono ?_
      rintro e wa ⟨rfl, m, hwa⟩
      have Ua : Hid (USt w wa b1 p al bt Ft1 (T.take j) bl Fl) := Lib.hid (hI.out.2.chg (by rw [hwa]; exact (Chg.refl _ _).drewN _))
      have HCK := Lib.hid (check_nat k p wa hk32 h4 h10 V.out.2.2.2)
      have HAD := Lib.hid (sadd_any wa bt Ft1 (T.take j) k Ua.out.2.2.2.1 hk32 (by simp; omega))
      have x3 := Ua.out.2.1.cell 3
      simp at x3
      clear hwa
      go_wp2_with fail
      refine HCK.out.mono ?_
      rintro e w' ⟨rfl, rfl⟩
      go_wp2_with fail
      refine HAD.out.mono ?_
      rintro e wb ⟨Fb, rfl, hs, hc, hg⟩
      have Ub := Lib.hid (Ua.out.add hs hc hg)
      clear hs hc hg x3
      generalize (!decide (k ∈ T.take j)) = bb
      go_wp2_with fail
      go_roundw
      case rel =>
        refine ⟨i + 4, j + 1, Fb, by go_num, by omega, by have := HIJ.out; omega, ?_⟩
        have e : ins (T.take j) k = T.take (j + 1) := by
          have hjT : j < T.length := by rw [← X.out.2.2.2.1]; exact hlt
          have hkv : T[j] = k := by have := V.out.2.1; rw [List.getElem?_eq_getElem hjT] at this; simpa using this
          have hnd := X.out.2.2.2.2.2.2.2.1
          have hsub : (T.take (j + 1)).Nodup := List.Nodup.sublist (List.take_sublist _ _) hnd
          rw [List.take_succ_eq_append_getElem hjT, hkv] at hsub ⊢
          rw [ins, if_neg (fun h => by rw [List.nodup_append] at hsub; exact hsub.2.2 k h k (by simp) rfl)]
        rw [← e]
        exact Ub.out
      case measure => simp [intOf]; omega
    · have hjt : j = t := by omega
      have hij := hI.out.1
      have hi1 : 8 + 4 * (t : Int) ≤ (i : Int) := by omega
      have Ue : Hid (USt w wr b1 p al bt Ft1 T bl Fl) := Lib.hid (by have h := hI.out.2; rwa [hjt, X.out.2.2.2.1, List.take_length] at h)
      clear hjt hij
      go_wp2_with fail
      have x4 := Ue.out.2.1.cell 4
      simp at x4
      have hto : (8 + 4 * (t : Int)).toNat = 8 + 4 * t := by omega
      have hge : (0 : Int) ≤ 8 + 4 * (t : Int) := by omega
      have hne : ¬ c = 8 + 4 * t := by have := HN.out; omega
      have hgw : w.heap.size ≤ wr.heap.size := Ue.out.1.size
      have hdL : BytesAt wr g (8 + 4 * t) (lbytes L) := X.out.2.2.1.agree (Ue.out.1.same hgl (by simp))
      have hunL := unL_any wr.drew bl p Fl L g (8 + 4 * t) (n - (8 + 4 * t)) (c - (8 + 4 * t)) h4 h10 (Ue.out.2.2.1.agree fun _ _ => rfl) (by rw [← X.out.2.2.2.2.2.1]; have := HN.out; omega) (by have := HN.out; omega) (hdL.agree rfl)
        (by rintro rfl; have := (Ue.out.2.2.2.2.2.2 g (by obtain ⟨v, _, _, _, hF, _⟩ := Ue.out.2.2.1; rw [hF]; simp)).1; omega) (by show g < wr.heap.size; omega) X.out.2.2.2.2.2.2.1 (fun k hk => X.out.2.2.2.2.2.2.2.2 k (.inr hk)) HLB.out
      have hblne : b1 ≠ bl := by rintro rfl; exact (Ue.out.2.2.2.2.2.2 b1 (by obtain ⟨v, _, _, _, hF, _⟩ := Ue.out.2.2.1; rw [hF]; simp)).2 rfl
      have HUL := Lib.hid hunL
      clear hdL hunL hgw
      go_region_held3 (fun w' => w'.cell? ⟨b1, 4, none⟩ = some (.pointer (some ⟨bl, 0, none⟩))) (first | exact hKeep | go_keep)
        (first
          | (go_at_call 41; refine HUL.out.mono ?_; rintro e wz ⟨Fl', rfl, hlz, hcz, hgz⟩; have hbz := Ue.out.2.1.drew; have hKeep : wz.cell? ⟨b1, 4, none⟩ = some (.pointer (some ⟨bl, 0, none⟩)) := (by have := (hbz.chg hcz (by simpa using hblne)).cell 4; simpa using this); have Z := Lib.hid (And.intro hlz (And.intro hcz hgz)); clear hlz hcz hgz hbz))
      have hfacts : Chg [] w wz ∧ Blk wz b1 59 #[.int .u8 (p : Int), .int .u32 (M : Int), .float .f64 al, .pointer (some ⟨bt, 0, none⟩), .pointer (some ⟨bl, 0, none⟩), .slice none 0 0] ∧ SetAt wz bt Ft1 T ∧ Blk wz b0 59 zeroSk ∧ (∀ k, k ∈ Fl' → w.heap.size ≤ k ∧ k ∉ Ft1) := by
        obtain ⟨hlz, hcz, hgz⟩ := Z.out
        obtain ⟨u1, u2, u3, u4, u5, u6, u7⟩ := Ue.out
        have hblF : bl ∈ Fl := by obtain ⟨v, _, _, _, hF, _⟩ := u3; rw [hF]; simp
        have hc : Chg [] w wz := (u1.drew).trans hcz (fun k hk => .inr (by simp at hk; subst hk; exact (u7 k hblF).1))
        refine ⟨hc, by rw [X.out.2.2.2.2.1]; exact (u2.drew).chg hcz (by simpa using hblne), (u4.agree (w' := wr.drew) (fun _ _ => rfl)).chg hcz (fun k hk => by simp; rintro rfl; exact (u6 k hk).2.2 hblF), X.out.1.chg hc (by simp), fun k hk => ?_⟩
        rcases hgz k hk with h | h
        · simp at h; subst h; exact ⟨(u7 k hblF).1, fun h2 => (u6 k h2).2.2 hblF⟩
        · have h0 := u1.size
          have h' : wr.heap.size ≤ k := h
          exact ⟨by omega, fun h2 => by have := u4.lt k h2; omega⟩
      have y0 := hfacts.2.1.cell 0
      have y1 := hfacts.2.1.cell 1
      have y2 := hfacts.2.1.cell 2
      have y3 := hfacts.2.1.cell 3
      have y4 := hfacts.2.1.cell 4
      have y5 := hfacts.2.1.cell 5
      have v0 := hfacts.2.2.2.1.cell 0
      have v1 := hfacts.2.2.2.1.cell 1
      have v2 := hfacts.2.2.2.1.cell 2
      have v3 := hfacts.2.2.2.1.cell 3
      have v4 := hfacts.2.2.2.1.cell 4
      have v5 := hfacts.2.2.2.1.cell 5
      have q0 := hfacts.2.2.2.1.frozen 0
      have q1 := hfacts.2.2.2.1.frozen 1
      have q2 := hfacts.2.2.2.1.frozen 2
      have q3 := hfacts.2.2.2.1.frozen 3
      have q4 := hfacts.2.2.2.1.frozen 4
      have q5 := hfacts.2.2.2.1.frozen 5
      simp [zeroSk] at y0 y1 y2 y3 y4 y5 v0 v1 v2 v3 v4 v5
      have HFA := Lib.hid hfacts
      have hsf := @run_store_float Tryz.prog
      clear hfacts hKeep x4 hto hge hne hblne
      go_wp2_with fail
      go_ret
      obtain ⟨hcz, hb1z, hsz, hb0z, hFlz⟩ := HFA.out
      have hb0l := X.out.1.lt
      obtain ⟨u1, u2, u3, u4, u5, u6, u7⟩ := Ue.out
      have hfin := (((((hb0z.set_ 0 (.int .u8 (p : Int))).set_ 1 (.int .u32 (M : Int))).set_ 2 (.float .f64 al)).set_ 3 (.pointer (some ⟨bt, 0, none⟩))).set_ 4 (.pointer (some ⟨bl, 0, none⟩))).set_ 5 (.slice none 0 0)
      have hcw : Chg [b0] wz ((((((wz.setCell ⟨b0, 0, none⟩ (.int .u8 (p : Int))).setCell ⟨b0, 1, none⟩ (.int .u32 (M : Int))).setCell ⟨b0, 2, none⟩ (.float .f64 al)).setCell ⟨b0, 3, none⟩ (.pointer (some ⟨bt, 0, none⟩))).setCell ⟨b0, 4, none⟩ (.pointer (some ⟨bl, 0, none⟩))).setCell ⟨b0, 5, none⟩ (.slice none 0 0)) :=
        ((((((Chg.refl _ _).setCell (.inl (by simp)) _).setCell (.inl (by simp)) _).setCell (.inl (by simp)) _).setCell (.inl (by simp)) _).setCell (.inl (by simp)) _).setCell (.inl (by simp)) _
      refine ⟨b0 :: (Ft1 ++ Fl'), rfl, SkAt.mk (al := al) (by rw [← X.out.2.2.2.2.1]; simpa [zeroSk] using hfin) (hsz.chg hcw (fun k hk => by simp; have := (u6 k hk).1; omega)) (Z.out.1.chg hcw (fun k hk => by simp; have := (hFlz k hk).1; omega)) (fun h => by have := (u6 b0 h).1; omega) (fun h => by have := (hFlz b0 h).1; omega) (fun k hk hkl => (hFlz k hkl).2 hk), (hcz.mono (by simp)).trans hcw (fun k hk => .inl hk), fun k hk => ?_⟩
      rcases List.mem_cons.1 hk with rfl | hk
      · exact .inl (by simp)
      · rcases List.mem_append.1 hk with hk | hk
        · exact .inr (u6 k hk).1
        · exact .inr (hFlz k hk).1
end Go.Proofs.YtgoliddhhichgaaGreatDoor

/-! ### The walk of UnmarshalBinary: a dense sketch. -/
namespace Go.Proofs.YtgoliddhhichgaaGreatDoor
open Go.RowKit Pl

set_option maxHeartbeats 4000000 in
set_option maxRecDepth 100000 in
theorem unmarD_any (w : World) (b0 p g n c : Nat) (R : List Nat) (h4 : 4 ≤ p) (h10 : p ≤ 10) (hb : Blk w b0 59 zeroSk) (hn : n = (skBytes p (.dense R)).length) (hnc : n ≤ c) (hd : BytesAt w g 0 (skBytes p (.dense R))) (hgl : g < w.heap.size)
    (hRl : R.length = 2 ^ p) (hR : ∀ r, r ∈ R → r ≤ 65 - p) :
    Calls Tryz.prog 16 #[.pointer (some ⟨b0, 0, none⟩), .slice (some ⟨g, 0, none⟩) n c] w (UnS w b0 p (.dense R)) := by
  obtain ⟨M, hM⟩ : ∃ M, M = 2 ^ p := ⟨_, rfl⟩
  have hM1 : M ≤ 1024 := by rw [hM]; exact Nat.pow_le_pow_right (n := 2) (by omega) h10
  have hM0 : 0 < M := by rw [hM]; exact Nat.two_pow_pos p
  have hn2 : n = 8 + M := by
    rw [hn, hM, ← hRl]
    simp only [skBytes, List.length_append, List.length_cons, List.length_nil, show ∀ x, (be32 x).length = 4 from fun _ => rfl]
  have hd2 : BytesAt w g 0 ([2, p, 0, 0] ++ be32 M ++ R) := by rw [hM, ← hRl]; exact hd
  have c0 := hd2 0 2 rfl
  have c1 := hd2 1 p rfl
  have c2 := hd2 2 0 rfl
  have c3 := hd2 3 0 rfl
  simp only [Nat.zero_add, vU8] at c0 c1 c2 c3
  have dt : BytesAt w g 4 (be32 M) := by have := hd2.left.right; simpa using this
  have dR : BytesAt w g 8 R := by have := hd2.right; simpa [be32] using this
  have hc := checkPrecision_any (p : Int) w (by omega) (by omega)
  have hr := fun cp => be32_read w g 4 4 cp M (by omega) (by omega) (fun i b hb => dt i b hb)
  have HCP := Lib.hid hc
  have HR := Lib.hid hr
  have X := Lib.hid (And.intro hb (And.intro dR (And.intro hM (And.intro hRl hR))))
  obtain ⟨cc, rfl⟩ : ∃ cc, c = cc + 8 := ⟨c - 8, by omega⟩
  have hcc0 : 0 < cc := by omega
  have hcM : M ≤ cc := by omega
  subst hn2
  clear hb hd hd2 hRl hR hM dt dR hc hr hn hnc
  go_enter Tryz.func16, Tryz.ntmps16
  go_wp2_with fail
  refine HCP.out.mono ?_
  rintro e w' ⟨rfl, rfl⟩
  go_wp2_with fail
  have e1 : (2 : Int) ^ p % 4294967296 = (M : Int) := by
    have : (2 : Int) ^ p = ((2 ^ p : Nat) : Int) := by simp
    rw [this, ← X.out.2.2.1]
    omega
  simp only [e1]
  refine (HR.out _).mono ?_
  rintro e w1 ⟨rfl, m, hw1⟩
  have H1 : Hid (w1.heap = w.heap ∧ Chg [] w w1) := Lib.hid (by rw [hw1]; exact ⟨rfl, (Chg.refl _ _).drewN _⟩)
  have HNE := Lib.hid (newNoErr_any w1 p false h4 h10)
  clear hw1 e1 c0 c1 c2 c3
  go_wp2_with fail
  refine (exactLen_any w1 _ _).mono ?_
  rintro e w' ⟨rfl, rfl⟩
  go_wp2_with fail
  refine HNE.out.mono ?_
  rintro e w2 ⟨b1, F1, rfl, hsk, hc2, hg2⟩
  have hdR : BytesAt w2 g 8 R := X.out.2.1.agree ((hc2.same (by rw [H1.out.1]; exact hgl) (by simp)).trans (by rw [H1.out.1]))
  have hun := unV_any w2 b1 p F1 _ R g 8 M cc h4 h10 hsk (by rw [X.out.2.2.1, X.out.2.2.2.1]) X.out.2.2.2.1 hdR X.out.2.2.2.2
  have HU := Lib.hid hun
  have Y := Lib.hid (And.intro hc2 hg2)
  clear hsk hc2 hg2 hdR hun
  go_wp2_with fail
  refine HU.out.mono ?_
  rintro e wz ⟨rfl, hsz, hcz⟩
  obtain ⟨al, v, hb1, ho, hRl, h256, hF, hFn⟩ := hsz
  have hM := X.out.2.2.1
  rw [← hM] at hb1
  have hcw : Chg [] w wz ∧ (∀ k, k ∈ F1 → w.heap.size ≤ k) := by
    have hz := H1.out.2.size
    have hF1 : ∀ k, k ∈ F1 → w.heap.size ≤ k := fun k hk => by
      rcases Y.out.2 k hk with h | h
      · simp at h
      · omega
    exact ⟨(H1.out.2.trans Y.out.1 (by simp)).trans hcz (fun k hk => .inr (hF1 k hk)), hF1⟩
  have hb0z := X.out.1.chg hcw.1 (by simp)
  obtain ⟨gr, cr, rfl⟩ : ∃ g c, v = .slice (some ⟨g, 0, none⟩) M c := by
    rcases own_form ho with ⟨_, h0, _⟩ | ⟨g, c, h0, _⟩
    · rw [List.length_map] at h0; omega
    · exact ⟨g, c, by rw [hM, ← hRl]; simpa using h0⟩
  have y0 := hb1.cell 0
  have y1 := hb1.cell 1
  have y2 := hb1.cell 2
  have y3 := hb1.cell 3
  have y4 := hb1.cell 4
  have y5 := hb1.cell 5
  have v0 := hb0z.cell 0
  have v1 := hb0z.cell 1
  have v2 := hb0z.cell 2
  have v3 := hb0z.cell 3
  have v4 := hb0z.cell 4
  have v5 := hb0z.cell 5
  have q0 := hb0z.frozen 0
  have q1 := hb0z.frozen 1
  have q2 := hb0z.frozen 2
  have q3 := hb0z.frozen 3
  have q4 := hb0z.frozen 4
  have q5 := hb0z.frozen 5
  simp [zeroSk] at y0 y1 y2 y3 y4 y5 v0 v1 v2 v3 v4 v5
  have Z := Lib.hid (And.intro hb1 (And.intro ho (And.intro hRl (And.intro h256 (And.intro hF (And.intro hFn (And.intro hcw hb0z)))))))
  have hsf := @run_store_float Tryz.prog
  clear hb1 ho hRl h256 hF hFn hcw hb0z hM hcz
  go_wp2_with fail
  go_ret
  obtain ⟨hb1, ho, hRl, h256, hF, hFn, ⟨hcz, hF1g⟩, hb0z⟩ := Z.out
  have hb0l := X.out.1.lt
  have hgr : w.heap.size ≤ gr := hF1g gr (by rw [hF]; simp [Value.ownBlock])
  have hfin := (((((hb0z.set_ 0 (.int .u8 (p : Int))).set_ 1 (.int .u32 (M : Int))).set_ 2 (.float .f64 al)).set_ 3 (.pointer none)).set_ 4 (.pointer none)).set_ 5 (.slice (some ⟨gr, 0, none⟩) M cr)
  have hcw : Chg [b0] wz ((((((wz.setCell ⟨b0, 0, none⟩ (.int .u8 (p : Int))).setCell ⟨b0, 1, none⟩ (.int .u32 (M : Int))).setCell ⟨b0, 2, none⟩ (.float .f64 al)).setCell ⟨b0, 3, none⟩ (.pointer none)).setCell ⟨b0, 4, none⟩ (.pointer none)).setCell ⟨b0, 5, none⟩ (.slice (some ⟨gr, 0, none⟩) M cr)) :=
    ((((((Chg.refl _ _).setCell (.inl (by simp)) _).setCell (.inl (by simp)) _).setCell (.inl (by simp)) _).setCell (.inl (by simp)) _).setCell (.inl (by simp)) _).setCell (.inl (by simp)) _
  refine ⟨[b0, gr], rfl, ⟨al, .slice (some ⟨gr, 0, none⟩) M cr, by rw [← X.out.2.2.1]; simpa [zeroSk] using hfin, own_agree ho (fun g' hg' => hcw.same (own_lt ho hg') (by simp [Value.ownBlock] at hg'; simp; omega)), hRl, h256, by simp [Value.ownBlock], by simp; omega⟩, (hcz.mono (by simp)).trans hcw (fun k hk => .inl hk), fun k hk => ?_⟩
  simp at hk
  rcases hk with rfl | rfl
  · exact .inl (by simp)
  · exact .inr hgr

/-- (*Sketch).UnmarshalBinary of the bytes that MarshalBinary writes. -/
theorem unmar_any (w : World) (b0 p g n c : Nat) (rep : Rep) (H : Nat → Prop) (h4 : 4 ≤ p) (h10 : p ≤ 10) (hsay : Says p H rep) (hH : Hs H) (hrep : match rep with | .sparse T L => T.Nodup ∧ (∀ k, k ∈ T ∨ k ∈ L → k < 4294967296) | .dense R => R.length = 2 ^ p)
    (hb : Blk w b0 59 zeroSk) (hn : n = (skBytes p rep).length) (hnc : n ≤ c) (hd : BytesAt w g 0 (skBytes p rep)) (hgl : g < w.heap.size) (hgb : g ≠ b0) :
    Calls Tryz.prog 16 #[.pointer (some ⟨b0, 0, none⟩), .slice (some ⟨g, 0, none⟩) n c] w (UnS w b0 p rep) := by
  have h2p : 2 ^ p ≤ 2 ^ 10 := Nat.pow_le_pow_right (by omega) h10
  cases rep with
  | sparse T L =>
    obtain ⟨h1, h2, h3, h5⟩ := hsay
    refine unmarS_any w b0 p g n c T L h4 h10 hb hn hnc hd hgl hgb h1 hrep.1 (by omega) (fun k hk => ⟨hrep.2 k hk, ?_⟩) (by omega)
    obtain ⟨x, hx, e⟩ := (h5 k).1 hk
    rw [← e, (dec_enc p x h4 h10 (hH x hx)).2]
    exact val_le p x
  | dense R =>
    refine unmarD_any w b0 p g n c R h4 h10 hb hn hnc hd hgl hrep (fun r hr => ?_)
    obtain ⟨i, hi, rfl⟩ := List.getElem_of_mem hr
    have hs := (hsay i (by rw [← hrep]; exact hi)).2
    have e : reg R i = R[i] := by simp [reg, hi]
    rw [e] at hs
    rcases hs with h | ⟨x, _, _, hv⟩
    · omega
    · rw [← hv]; exact val_le p x
end Go.Proofs.YtgoliddhhichgaaGreatDoor
