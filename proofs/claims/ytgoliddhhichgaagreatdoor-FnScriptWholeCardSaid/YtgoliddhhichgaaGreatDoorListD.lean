/- The walk of the compressed list's AppendBinary. -/
import Derived.Test.YtgoliddhhichgaaGreatDoorListC
import Derived.Deep.AppendLies
namespace Go.Proofs.YtgoliddhhichgaaGreatDoor
open Go.RowKit Pl

/-- The bytes of a list as they are written. -/
def lbytes (L : List Nat) : List Nat := be32 L.length ++ be32 (L.getLastD 0) ++ (be32 (bytesOf L).length ++ bytesOf L)

set_option maxHeartbeats 1000000 in
set_option maxRecDepth 100000 in
/-- (*compressedList).AppendBinary. -/
theorem lbytes_any (a w : World) (b : Nat) (F L : List Nat) (v : Value) (xs : List Nat) (ha : Chg [] a w) (hd : Data a w v xs) (h : ListAt w b F L) (hF : ∀ k, k ∈ F → k < a.heap.size) (hx : xs.length < 90000000) (hb : (bytesOf L).length < 90000000) :
    Calls Tryz.prog 68 #[.pointer (some ⟨b, 0, none⟩), v] w fun e w' => ∃ v', e = .returned (.tuple #[v', .nilIface]) ∧ Chg [] a w' ∧ Data a w' v' (xs ++ lbytes L) := by
  obtain ⟨i0, hi0, hz0, hz1, hz2⟩ := info_parts A22.info
  have hn1 := (bytesFrom_len 0 L).1
  obtain ⟨lv, hbl, hol, hlt, rfl, hFn⟩ := h
  obtain ⟨ho0, hloc⟩ := hd
  have ho : w.ownsRow 0 5 1 v xs.length (xs.map vU8) := by
    unfold Own at ho0
    rwa [List.length_map] at ho0
  obtain ⟨A, c, rfl, hc⟩ := own_slice ho
  obtain ⟨A2, c2, rfl, hc2⟩ := own_slice hol
  have hown := Own.bys hol
  simp only [List.length_map] at *
  obtain ⟨la, hla⟩ : ∃ la, la = L.getLastD 0 := ⟨_, rfl⟩
  have hll : la < 4294967296 := by rw [hla]; exact getLastD_lt _ _ _ (by omega) hlt
  have hL : L.length < 90000000 := Nat.lt_of_le_of_lt hn1 hb
  rw [← hla] at hbl
  have c0 := hbl.cell 0
  have c1 := hbl.cell 1
  have c2' := hbl.cell 2
  simp [vU32] at c0 c1 c2'
  have X := Lib.hid (And.intro ha (And.intro hbl (And.intro hown (And.intro hF (And.intro hloc hla)))))
  clear ha hbl hown hF hloc hla hc hc2 ho0 hol hlt hFn hn1
  go_enter Tryz.func68, Tryz.ntmps68
  go_wp2_with fail
  have hne := own_ne X.out.2.2.1 X.out.2.1 (by decide)
  have hnb : (Value.slice A xs.length c).ownBlock ≠ some b := fun e => by
    have := X.out.2.2.2.2.1 b e
    have := X.out.2.2.2.1 b (by simp)
    omega
  have hlt := X.out.2.1.lt
  go_region_held3 (fun w' => w'.cell? ⟨b, 0, none⟩ = some (.int .u32 (L.length : Int)) ∧ w'.cell? ⟨b, 1, none⟩ = some (.int .u32 (la : Int)))
    (first
      | go_keep
      | (go_split_ands
         refine ⟨?_, ?_⟩
         · (rw [hg2.cell_far _ (by simp; omega) (Ne.symm hnb)]; assumption)
         · (rw [hg2.cell_far _ (by simp; omega) (Ne.symm hnb)]; assumption)))
    ((refine step_append_lies _ (by rfl) _ _ _ (by rfl) 0 5 i0 (.int .u8 0) 1 1 A22.ht hi0 hz0 hz1 hz2 rfl (by omega) (.slice A xs.length c) xs.length (xs.map vU8) (by rfl) ((ho.alloc _).drew)
        ⟨w.heap.size, 0, none⟩ 8 8 [.int .u8 (IntKind.u8.wrap (↑L.length / 16777216)), .int .u8 (IntKind.u8.wrap (↑L.length / 65536)), .int .u8 (IntKind.u8.wrap (↑L.length / 256)), .int .u8 (IntKind.u8.wrap ↑L.length), .int .u8 (IntKind.u8.wrap (↑la / 16777216)), .int .u8 (IntKind.u8.wrap (↑la / 65536)), .int .u8 (IntKind.u8.wrap (↑la / 256)), .int .u8 (IntKind.u8.wrap ↑la)] (by rfl) (by rfl) (World.news_of_block (cs := #[.int .u8 (IntKind.u8.wrap (↑L.length / 16777216)), .int .u8 (IntKind.u8.wrap (↑L.length / 65536)), .int .u8 (IntKind.u8.wrap (↑L.length / 256)), .int .u8 (IntKind.u8.wrap ↑L.length), .int .u8 (IntKind.u8.wrap (↑la / 16777216)), .int .u8 (IntKind.u8.wrap (↑la / 65536)), .int .u8 (IntKind.u8.wrap (↑la / 256)), .int .u8 (IntKind.u8.wrap ↑la)]) (t := 5) (fr := (0, 0)) (heap_alloc_new w _)) (by simp [Value.oneCell'])
        (by omega) (by unfold maxLen; omega) (by omega) (Nat.zero_le _) (w.heap.size + 1) (by simp) ?_; intro g2 cap2 w2 ho2 hg2 hat2 hlt2))
  have Y := Lib.hid (And.intro hg2 hat2)
  have d2 : w2.cell? ⟨b, 2, none⟩ = some (.slice A2 (bytesOf L).length c2) := by
    rw [hg2.cell_far _ (by simp; omega) (Ne.symm hnb)]
    exact ((World.cell?_alloc_lt w _ (⟨b, 2, none⟩ : Addr) hlt)).trans c2'
  clear hg2 hat2 hlt2 hne hnb c0 c1 c2'
  have hpre : Chg [] a w2 ∧ Data a w2 (.slice (some ⟨g2, 0, none⟩) (xs.length + 8) cap2) (xs ++ be32 L.length ++ be32 la) ∧ Bys w2 (.slice A2 (bytesOf L).length c2) (bytesOf L) := by
    obtain ⟨ha, hbl, hown, hF, hloc, hla⟩ := X.out
    obtain ⟨hg2, hat2⟩ := Y.out
    have hz := ha.size
    have hc2 : Chg [] a w2 := ((ha.alloc _).drew).grown hg2 (fun g hg => .inr (hloc g hg))
    refine ⟨hc2, ⟨?_, ?_⟩, ?_⟩
    · have e1 := be32_wrap L.length la
      unfold Own
      rw [List.length_map, List.map_append, List.map_append, List.append_assoc (List.map vU8 xs), e1, List.length_append, List.length_append]
      exact ho2
    · intro g hg
      simp [Value.ownBlock] at hg
      subst hg
      rcases hat2 with e | e
      · exact hloc _ e
      · omega
    · refine own_agree hown (fun g hg => ?_)
      have h1 := hF g (by simp [hg])
      rw [hc2.same h1 (by simp), ha.same h1 (by simp)]
  have hP := Lib.hid hpre
  clear hpre ho2
  go_wp2_with fail
  refine (vbytes_any a w2 _ _ _ _ hP.out.1 hP.out.2.1 hP.out.2.2 (fun g hg => X.out.2.2.2.1 g (by simp [hg])) (by simp [be32]; omega) (by omega)).mono ?_
  rintro e w3 ⟨v3, rfl, hc3, hd3⟩
  have Z := Lib.hid (And.intro hc3 hd3)
  clear hc3 hd3
  go_wp2_with fail
  go_ret2
  refine ⟨v3, rfl, Z.out.1, ?_⟩
  have := Z.out.2
  unfold lbytes
  rw [← X.out.2.2.2.2.2]
  simpa only [List.append_assoc] using this
end Go.Proofs.YtgoliddhhichgaaGreatDoor
