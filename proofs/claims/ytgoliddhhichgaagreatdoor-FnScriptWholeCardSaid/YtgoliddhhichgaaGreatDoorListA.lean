/- The walks of the compressed list: counting, reading on. -/
import Derived.Test.YtgoliddhhichgaaGreatDoorVarint
import Derived.Deep.QuietTactic
import Derived.BigQuiet
namespace Go.Proofs.YtgoliddhhichgaaGreatDoor
open Go.RowKit Pl

theorem ListAt.alloc {w : World} {b : Nat} {F L : List Nat} (h : ListAt w b F L) (o : Obj) : ListAt (w.alloc o) b F L := h.agree fun k hk => Below.heap_alloc w o k (h.lt k hk)
theorem ListAt.drewN {w : World} {b : Nat} {F L : List Nat} (h : ListAt w b F L) (n : Nat) : ListAt (w.drewN n) b F L := h.agree fun _ _ => rfl

set_option maxHeartbeats 400000 in
set_option maxRecDepth 100000 in
/-- (*compressedList).Len. -/
theorem llen_any (w : World) (b : Nat) (F L : List Nat) (h : ListAt w b F L) :
    Calls Tryz.prog 55 #[.pointer (some ⟨b, 0, none⟩)] w fun e w' => e = .returned (.int .i64 ((bytesOf L).length : Int)) ∧ w' = w := by
  obtain ⟨v, hb, ho, hlt, rfl, hFn⟩ := h
  obtain ⟨A, c, rfl, hc⟩ := own_slice ho
  have c0 := hb.cell 2
  simp at c0
  clear hb ho hlt hFn hc
  go_enter Tryz.func55, Tryz.ntmps55
  go_wp2
  go_ret
  exact ⟨by simp, rfl⟩

set_option maxHeartbeats 400000 in
set_option maxRecDepth 100000 in
/-- (*compressedList).decode. -/
theorem ldecode_any (w : World) (b : Nat) (F L pre rest : List Nat) (k i j last : Nat) (h : ListAt w b F L) (hL : L = pre ++ k :: rest) (hi : i = (bytesOf pre).length) (hj : j = (bytesOf (pre ++ [k])).length)
    (hla : last = pre.getLastD 0) (hn : (bytesOf L).length < 100000000) :
    Calls Tryz.prog 80 #[.pointer (some ⟨b, 0, none⟩), .int .i64 (i : Int), .int .u32 (last : Int)] w fun e w' => e = .returned (.tuple #[.int .u32 (k : Int), .int .i64 (j : Int)]) ∧ w' = w := by
  obtain ⟨v, hb, ho, hlt, rfl, hFn⟩ := h
  have c0 := hb.cell 2
  simp at c0
  have hk : k < 4294967296 := hlt k (by rw [hL]; simp)
  have hlast : last < 4294967296 := by rw [hla]; exact getLastD_lt _ _ _ (by omega) (fun x hx => hlt x (by rw [hL]; simp [hx]))
  have hd : (bytesOf L).drop i = vint ((k + 4294967296 - last) % 4294967296) ++ bytesFrom k rest := by rw [hL, hi, bytesFrom_drop, ← hla]
  have hj2 : j = i + (vint ((k + 4294967296 - last) % 4294967296)).length := by
    rw [hj, bytesOf_append, List.length_append, hi, hla]
    simp [bytesFrom]
  obtain ⟨X, hX⟩ : ∃ X, X = (k + 4294967296 - last) % 4294967296 := ⟨_, rfl⟩
  rw [← hX] at hd hj2
  have hXl : X < 4294967296 := by omega
  have hback : (X + last) % 4294967296 = k := by rw [hX]; exact diff_back k last hk hlast
  have hjn : i + (vint X).length < 200000000 := by
    have := congrArg List.length hd
    simp only [List.length_drop, List.length_append] at this
    have := vint_pos X
    omega
  have hcall := vdecode_any w v (bytesOf L) i X _ (Own.bys ho) hd hXl hn
  rw [← hj2] at hcall hjn
  clear hb ho hlt hFn hd hj2 hX hL hi hj hla hk
  go_enter Tryz.func80, Tryz.ntmps80
  go_wp2_with fail
  refine hcall.mono ?_
  rintro e w' ⟨rfl, rfl⟩
  clear hcall
  go_wp2_with fail
  refine bodyPost_ret (v := .tuple #[.int .u32 (k : Int), .int .i64 (j : Int)]) ?_ rfl ⟨rfl, rfl⟩
  simp [results, Tryz.results80, go_sem]
  omega

/-- An iterator's value: the keys of pre lie behind it. -/
def itV (pre : List Nat) (b : Nat) : Array Value := #[.int .i64 (((bytesOf pre).length : Nat) : Int), .int .u32 ((pre.getLastD 0 : Nat) : Int), .pointer (some ⟨b, 0, none⟩)]

set_option maxHeartbeats 400000 in
set_option maxRecDepth 100000 in
/-- (iterator).HasNext. -/
theorem hasNext_any (w : World) (b : Nat) (F L pre rest : List Nat) (h : ListAt w b F L) (hL : L = pre ++ rest) :
    Calls Tryz.prog 59 #[.agg (itV pre b)] w fun e w' => e = .returned (.bool (decide (rest ≠ []))) ∧ Chg [] w w' := by
  have hiff := bytesOf_lt_iff pre rest
  rw [← hL] at hiff
  unfold itV
  have h2 := h.alloc (.cells (itV pre b) 99)
  obtain ⟨i, hi⟩ : ∃ i, i = (bytesOf pre).length := ⟨_, rfl⟩
  obtain ⟨la, hla⟩ : ∃ la, la = pre.getLastD 0 := ⟨_, rfl⟩
  have h3 : ∀ n, Calls Tryz.prog 55 #[.pointer (some ⟨b, 0, none⟩)] ((w.alloc (.cells (itV pre b) 99)).drewN n) fun e w' => e = .returned (.int .i64 ((bytesOf L).length : Int)) ∧ w' = (w.alloc (.cells (itV pre b) 99)).drewN n := fun n => llen_any _ b F L (h2.drewN n)
  unfold itV at h3
  obtain ⟨n, hn⟩ : ∃ n, n = (bytesOf L).length := ⟨_, rfl⟩
  rw [← hi, ← hn] at hiff
  rw [← hi, ← hla, ← hn] at h3
  rw [← hi, ← hla] at ⊢
  have X := Lib.hid (And.intro h3 hiff)
  clear h h2 h3 hiff hi hla hL hn
  have hb := Blk.new w 99 #[.int .i64 (i : Int), .int .u32 (la : Int), .pointer (some ⟨b, 0, none⟩)]
  have c0 := hb.cell 0
  have c2 := hb.cell 2
  simp at c0 c2
  clear hb
  go_enter Tryz.func59, Tryz.ntmps59
  go_wp2_with fail
  go_quiet ((go_at_call 55; exact Calls.quiet_of_same (X.out.1 _)))
  go_wp2
  refine bodyPost_ret (v := .bool (decide (rest ≠ []))) (by simp only [← X.out.2]; simp [results, Tryz.results59, go_sem]) rfl ⟨rfl, ?_⟩
  exact ((Chg.refl _ _).alloc _).drewN _

set_option maxHeartbeats 400000 in
set_option maxRecDepth 100000 in
/-- (*iterator).Peek. -/
theorem peek_any (w : World) (it b : Nat) (F L pre rest : List Nat) (k : Nat) (h : ListAt w b F L) (hL : L = pre ++ k :: rest) (hb : Blk w it 99 (itV pre b)) (hn : (bytesOf L).length < 100000000) :
    Calls Tryz.prog 76 #[.pointer (some ⟨it, 0, none⟩)] w fun e w' => e = .returned (.tuple #[.int .u32 (k : Int), .int .i64 (((bytesOf (pre ++ [k])).length : Nat) : Int)]) ∧ ∃ n, w' = w.drewN n := by
  obtain ⟨j, hj⟩ : ∃ j, j = (bytesOf (pre ++ [k])).length := ⟨_, rfl⟩
  obtain ⟨i, hi⟩ : ∃ i, i = (bytesOf pre).length := ⟨_, rfl⟩
  obtain ⟨la, hla⟩ : ∃ la, la = pre.getLastD 0 := ⟨_, rfl⟩
  have h3 : ∀ n, Calls Tryz.prog 80 #[.pointer (some ⟨b, 0, none⟩), .int .i64 (i : Int), .int .u32 (la : Int)] (w.drewN n) fun e w' => e = .returned (.tuple #[.int .u32 (k : Int), .int .i64 (j : Int)]) ∧ w' = w.drewN n :=
    fun n => ldecode_any _ b F L pre rest k i j la (h.drewN n) hL hi hj hla hn
  unfold itV at hb
  rw [← hi, ← hla] at hb
  rw [← hj]
  have c0 := hb.cell 0
  have c1 := hb.cell 1
  have c2 := hb.cell 2
  simp at c0 c1 c2
  have X := Lib.hid h3
  clear h h3 hi hla hL hn hj hb
  go_enter Tryz.func76, Tryz.ntmps76
  go_wp2_with fail
  go_quiet ((go_at_call 80; exact Calls.quiet_of_same (X.out _)))
  go_wp2
  refine bodyPost_ret (v := .tuple #[.int .u32 (k : Int), .int .i64 (j : Int)]) (by simp [results, Tryz.results76, go_sem]) rfl ⟨rfl, _, rfl⟩

set_option maxHeartbeats 400000 in
set_option maxRecDepth 100000 in
/-- (*iterator).Next. -/
theorem next_any (w : World) (it b : Nat) (F L pre rest : List Nat) (k : Nat) (h : ListAt w b F L) (hL : L = pre ++ k :: rest) (hb : Blk w it 99 (itV pre b)) (hn : (bytesOf L).length < 100000000) :
    Calls Tryz.prog 60 #[.pointer (some ⟨it, 0, none⟩)] w fun e w' => e = .returned (.int .u32 (k : Int)) ∧ Chg [it] w w' ∧ Blk w' it 99 (itV (pre ++ [k]) b) := by
  obtain ⟨j, hj⟩ : ∃ j, j = (bytesOf (pre ++ [k])).length := ⟨_, rfl⟩
  obtain ⟨i, hi⟩ : ∃ i, i = (bytesOf pre).length := ⟨_, rfl⟩
  obtain ⟨la, hla⟩ : ∃ la, la = pre.getLastD 0 := ⟨_, rfl⟩
  have h3 : ∀ n, Calls Tryz.prog 80 #[.pointer (some ⟨b, 0, none⟩), .int .i64 (i : Int), .int .u32 (la : Int)] (w.drewN n) fun e w' => e = .returned (.tuple #[.int .u32 (k : Int), .int .i64 (j : Int)]) ∧ w' = w.drewN n :=
    fun n => ldecode_any _ b F L pre rest k i j la (h.drewN n) hL hi hj hla hn
  unfold itV at hb ⊢
  rw [← hi, ← hla] at hb
  rw [← hj, getLastD_append_one]
  have c0 := hb.cell 0
  have c1 := hb.cell 1
  have c2 := hb.cell 2
  have f0 := hb.frozen 0
  have f1 := hb.frozen 1
  simp at c0 c1 c2
  have X := Lib.hid (And.intro h3 hb)
  clear h h3 hi hla hL hn hj hb
  go_enter Tryz.func60, Tryz.ntmps60
  go_wp2_with fail
  go_quiet ((go_at_call 80; exact Calls.quiet_of_same (X.out.1 _)))
  go_wp2
  go_ret
  refine ⟨rfl, ((((Chg.refl _ w).drewN _).setCell (.inl (by simp)) _).setCell (.inl (by simp)) _), ?_⟩
  simpa using (((X.out.2.drewN _).set_ 1 _).set_ 0 _)

set_option maxHeartbeats 400000 in
set_option maxRecDepth 100000 in
/-- (*iterator).Advance. -/
theorem advance_any (w : World) (it b : Nat) (pre : List Nat) (k : Nat) (hb : Blk w it 99 (itV pre b)) :
    Calls Tryz.prog 77 #[.pointer (some ⟨it, 0, none⟩), .int .u32 (k : Int), .int .i64 (((bytesOf (pre ++ [k])).length : Nat) : Int)] w fun e w' => e = .returned (.tuple #[]) ∧ Chg [it] w w' ∧ Blk w' it 99 (itV (pre ++ [k]) b) := by
  obtain ⟨j, hj⟩ : ∃ j, j = (bytesOf (pre ++ [k])).length := ⟨_, rfl⟩
  obtain ⟨i, hi⟩ : ∃ i, i = (bytesOf pre).length := ⟨_, rfl⟩
  obtain ⟨la, hla⟩ : ∃ la, la = pre.getLastD 0 := ⟨_, rfl⟩
  unfold itV at hb ⊢
  rw [← hi, ← hla] at hb
  rw [← hj, getLastD_append_one]
  have c0 := hb.cell 0
  have c1 := hb.cell 1
  have f0 := hb.frozen 0
  have f1 := hb.frozen 1
  simp at c0 c1
  have X := Lib.hid hb
  clear hi hla hj hb
  go_enter Tryz.func77, Tryz.ntmps77
  go_wp2
  go_end0
  refine ⟨rfl, (((Chg.refl _ w).setCell (.inl (by simp)) _).setCell (.inl (by simp)) _), ?_⟩
  simpa using ((X.out.set_ 1 _).set_ 0 _)

set_option maxHeartbeats 400000 in
set_option maxRecDepth 100000 in
/-- (*compressedList).Iter. -/
theorem iter_any (w : World) (b : Nat) :
    Calls Tryz.prog 58 #[.pointer (some ⟨b, 0, none⟩)] w fun e w' => e = .returned (.agg (itV [] b)) ∧ Chg [] w w' := by
  go_enter Tryz.func58, Tryz.ntmps58
  go_wp2
  refine bodyPost_ret (v := .agg (itV [] b)) (by simp [results, Tryz.results58, go_sem, itV, bytesOf, bytesFrom]) rfl ⟨rfl, ?_⟩
  exact (Chg.refl _ _).alloc _
end Go.Proofs.YtgoliddhhichgaaGreatDoor
