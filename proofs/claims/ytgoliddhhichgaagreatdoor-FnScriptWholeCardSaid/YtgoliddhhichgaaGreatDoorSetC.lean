/- The walks of the set of keys: merging, cloning, going over it with a function. -/
import Derived.Test.YtgoliddhhichgaaGreatDoorSetB
namespace Go.Proofs.YtgoliddhhichgaaGreatDoor
open Go.RowKit Pl

theorem Chg.step {F F1 : List Nat} {a w w' : World} (h : Chg F a w) (g : Grew a F F1) (h' : Chg F1 w w') : Chg F a w' := h.trans h' g
theorem Grew.step {F F1 F2 : List Nat} {a w : World} (hs : a.heap.size ≤ w.heap.size) (g : Grew a F F1) (g' : Grew w F1 F2) : Grew a F F2 := fun k hk => by
  rcases g' k hk with h | h
  · exact g k h
  · exact .inr (by omega)
theorem Grew.refl (w : World) (F : List Nat) : Grew w F F := fun _ hk => .inl hk

theorem ins_len (T : List Nat) (k : Nat) : (ins T k).length ≤ T.length + 1 := by unfold ins; split <;> simp
theorem insAll_len (l T : List Nat) : (l.foldl ins T).length ≤ T.length + l.length := by
  induction l generalizing T with
  | nil => simp
  | cons k l ih => have := ih (ins T k); have := ins_len T k; simp; omega
theorem mem_ins (T : List Nat) (k j : Nat) : j ∈ ins T k ↔ j ∈ T ∨ j = k := by
  unfold ins
  split
  · constructor
    · exact .inl
    · rintro (h | rfl) <;> assumption
  · simp
theorem mem_insAll (l T : List Nat) (j : Nat) : j ∈ l.foldl ins T ↔ j ∈ T ∨ j ∈ l := by
  induction l generalizing T with
  | nil => simp
  | cons k l ih => simp [ih, mem_ins, or_assoc]
theorem insAll_new (l T : List Nat) (h : (T ++ l).Nodup) : l.foldl ins T = T ++ l := by
  induction l generalizing T with
  | nil => simp
  | cons k l ih =>
    have hk : k ∉ T := fun hk => by
      rw [List.nodup_append] at h
      exact h.2.2 k hk k (by simp) rfl
    rw [List.foldl_cons, ins, if_neg hk, ih (T ++ [k]) (by simpa using h)]
    simp

set_option maxHeartbeats 400000 in
set_option maxRecDepth 100000 in
/-- (set).Merge. -/
theorem smerge_any (w : World) (b b2 : Nat) (F F2 T T2 : List Nat) (h : SetAt w b F T) (h2 : SetAt w b2 F2 T2) (hd : ∀ k, k ∈ F2 → k ∉ F) (hT : T.length + T2.length < 100000000) :
    Calls Tryz.prog 57 #[.agg #[.pointer (some ⟨b, 0, none⟩)], .agg #[.pointer (some ⟨b2, 0, none⟩)]] w fun e w' =>
      e = .returned (.tuple #[]) ∧ ∃ F', SetAt w' b F' (T2.foldl ins T) ∧ Chg F w w' ∧ Grew w F F' := by
  have hF := h.lt
  obtain ⟨w2, hw2⟩ : ∃ w2, w2 = (w.alloc (.cells #[.pointer (some ⟨b, 0, none⟩)] 56)).alloc (.cells #[.pointer (some ⟨b2, 0, none⟩)] 56) := ⟨_, rfl⟩
  have hbox : Blk w2 w.heap.size 56 #[.pointer (some ⟨b, 0, none⟩)] := by rw [hw2]; exact (Blk.new w 56 _).alloc _
  have hs : SetAt w2 b F T := by rw [hw2]; exact (h.alloc _).alloc _
  have hs2 : SetAt w2 b2 F2 T2 := by rw [hw2]; exact (h2.alloc _).alloc _
  have hc2 : Chg F w w2 := by rw [hw2]; exact ((Chg.refl F w).alloc _).alloc _
  have hcall := forEach_any w2 b2 F2 T2 hs2 79 #[.pointer (some ⟨w.heap.size, 0, none⟩)] eg79
    (fun l W => ∃ F1, SetAt W b F1 (l.foldl ins T) ∧ Chg F w2 W ∧ Grew w2 F F1) ⟨F, hs, Chg.refl _ _, Grew.refl _ _⟩
    (fun l W ⟨F1, _, hc, _⟩ k hk => hc.same (hs2.lt k hk) (hd k hk)) (by omega)
    (fun l k W hk ⟨r, hr⟩ ⟨F1, hs1, hc1, hg1⟩ => by
      have hl : l.length ≤ T2.length := by rw [hr]; simp
      have := insAll_len l T
      refine (merge79_any W w.heap.size b F1 (l.foldl ins T) k (hbox.chg hc1 (fun hk => by have := hF _ hk; omega)) hs1 hk (by omega)).mono ?_
      rintro e W' ⟨F', rfl, hs', hc', hg'⟩
      refine ⟨rfl, F', ?_, hc1.step hg1 hc', hg1.step hc1.size hg'⟩
      rw [List.foldl_append]
      exact hs')
  have H := Lib.hid hcall
  rw [hw2] at H
  have HC := Lib.hid hc2
  clear hcall h h2 hd hF hbox hs hs2 hc2
  go_enter Tryz.func57, Tryz.ntmps57
  go_wp2_with fail
  refine H.out.mono ?_
  rintro e w3 ⟨rfl, hI⟩
  have HI := Lib.hid hI
  clear hI
  go_wp2_with fail
  go_end0
  obtain ⟨F', hs, hc, hg⟩ := HI.out
  rw [← hw2] at hc hg
  exact ⟨rfl, F', hs, HC.out.trans hc (fun k hk => .inl hk), (Grew.refl w F).step HC.out.size hg⟩

/-- What Clone leaves. -/
def Cloned (w : World) (T : List Nat) (e : Ending) (w' : World) : Prop :=
  ∃ b F, e = .returned (.agg #[.pointer (some ⟨b, 0, none⟩)]) ∧ SetAt w' b F T ∧ Chg [] w w' ∧ Grew w [] F

set_option maxHeartbeats 400000 in
set_option maxRecDepth 100000 in
theorem sclone_nil (w : World) : Calls Tryz.prog 35 #[.agg #[.pointer none]] w fun e w' => e = .returned (.agg #[.pointer none]) ∧ Chg [] w w' := by
  go_enter Tryz.func35, Tryz.ntmps35
  go_wp2
  refine bodyPost_ret (v := .agg #[.pointer none]) (by simp [results, Tryz.results35, go_sem]) rfl ⟨rfl, ?_⟩
  exact ((Chg.refl _ _).alloc _).alloc _

set_option maxHeartbeats 400000 in
set_option maxRecDepth 100000 in
theorem sclone_any (w : World) (b : Nat) (F T : List Nat) (h : SetAt w b F T) (hT : T.length < 100000000) :
    Calls Tryz.prog 35 #[.agg #[.pointer (some ⟨b, 0, none⟩)]] w (Cloned w T) := by
  have hF := h.lt
  obtain ⟨w2, hw2⟩ : ∃ w2, w2 = (w.alloc (.cells #[.pointer (some ⟨b, 0, none⟩)] 56)).alloc (.cells #[.pointer none] 56) := ⟨_, rfl⟩
  have hs2 : SetAt w2 b F T := by rw [hw2]; exact (h.alloc _).alloc _
  have H := Lib.hid (And.intro h hs2)
  clear h hs2
  go_enter Tryz.func35, Tryz.ntmps35
  go_wp2_with fail
  rw [← hw2]
  refine (len64_any _ b F T H.out.2).mono ?_
  rintro e w' ⟨rfl, rfl⟩
  go_wp2_with fail
  refine (newU32Set_any _ _).mono ?_
  rintro e w3 ⟨b3, F3, rfl, hs3, hc3, hg3⟩
  rw [← hw2] at hc3 hg3
  have hz2 : w2.heap.size = w.heap.size + 2 := by rw [hw2]; simp
  have hF3 : ∀ k, k ∈ F3 → w2.heap.size ≤ k := fun k hk => by
    rcases hg3 k hk with h | h
    · simp at h
    · exact h
  have hF3l := hs3.lt
  have hr2 : Blk w2 (w.heap.size + 1) 56 #[.pointer none] := by rw [hw2]; simpa using Blk.new (w.alloc (.cells #[.pointer (some ⟨b, 0, none⟩)] 56)) 56 #[.pointer none]
  have hp2 : Blk w2 w.heap.size 56 #[.pointer (some ⟨b, 0, none⟩)] := by rw [hw2]; exact (Blk.new w 56 _).alloc _
  have hr3 : Blk w3 (w.heap.size + 1) 56 #[.pointer none] := hr2.chg hc3 (by simp)
  have hp3 : Blk w3 w.heap.size 56 #[.pointer (some ⟨b, 0, none⟩)] := hp2.chg hc3 (by simp)
  obtain ⟨w4, hw4⟩ : ∃ w4, w4 = w3.alloc (.cells #[.pointer (some ⟨b3, 0, none⟩)] 54) := ⟨_, rfl⟩
  have hn4 : Blk w4 w3.heap.size 54 #[.pointer (some ⟨b3, 0, none⟩)] := by rw [hw4]; exact Blk.new w3 54 _
  have hs4 : SetAt w4 b3 F3 [] := by rw [hw4]; exact hs3.alloc _
  have hsb4 : SetAt w4 b F T := by rw [hw4]; exact (H.out.2.chg hc3 (by simp)).alloc _
  have hz3 := hc3.size
  have hcall := forEach_any w4 b F T hsb4 66 #[.pointer (some ⟨w3.heap.size, 0, none⟩)] eg66
    (fun l W => ∃ F1, SetAt W b3 F1 (l.foldl ins []) ∧ Chg F3 w4 W ∧ Grew w4 F3 F1) ⟨F3, hs4, Chg.refl _ _, Grew.refl _ _⟩
    (fun l W ⟨F1, _, hc, _⟩ k hk => hc.same (hsb4.lt k hk) (fun h => by have := hF3 k h; have := hF k hk; omega)) (by omega)
    (fun l k W hk ⟨r, hr⟩ ⟨F1, hs1, hc1, hg1⟩ => by
      have hl : l.length ≤ T.length := by rw [hr]; simp
      have hl2 := insAll_len l []
      simp only [List.length_nil, Nat.zero_add] at hl2
      refine (clone66_any W w3.heap.size b3 F1 (l.foldl ins []) k (hn4.chg hc1 (fun hk => by have := hF3l _ hk; omega)) hs1 hk (by omega)).mono ?_
      rintro e W' ⟨F', rfl, hs', hc', hg'⟩
      refine ⟨rfl, F', ?_, hc1.step hg1 hc', hg1.step hc1.size hg'⟩
      rw [List.foldl_append]
      exact hs')
  have HC := Lib.hid hcall
  rw [hw4] at HC
  have c3 : (w3.alloc (.cells #[.pointer (some ⟨b3, 0, none⟩)] 54)).cell? ⟨w.heap.size, 0, none⟩ = some (.pointer (some ⟨b, 0, none⟩)) := (hp3.alloc _).cell 0
  have X := Lib.hid (And.intro hc3 (And.intro hg3 (And.intro hF3 (And.intro hF3l (And.intro hr3 (And.intro hz2 (And.intro hw2 (And.intro hz3 (And.intro hF (And.intro hn4 hw4))))))))))
  clear hcall hc3 hg3 hF3 hF3l hr3 hp3 hr2 hp2 hz2 hw2 hz3 hs3 hs4 hsb4 hF hn4 hw4
  go_wp2_with fail
  refine HC.out.mono ?_
  rintro e w5 ⟨rfl, F5, hs5, hc5, hg5⟩
  obtain ⟨hc3, hg3, hF3, hF3l, hr3, hz2, hw2, hz3, hF, hn4, hw4⟩ := X.out
  rw [← hw4] at hc5 hg5
  have hr5 : Blk w5 (w.heap.size + 1) 56 #[.pointer none] := (show Blk w4 _ _ _ by rw [hw4]; exact hr3.alloc _).chg hc5 (fun h => by have := hF3 _ h; omega)
  have hn5 : Blk w5 w3.heap.size 54 #[.pointer (some ⟨b3, 0, none⟩)] := hn4.chg hc5 (fun h => by have := hF3l _ h; omega)
  have n5 := hn5.cell 0
  have r5 := hr5.cell 0
  have q5 := hr5.frozen 0
  simp at n5 r5
  have hlt5 := hr5.lt
  have Y := Lib.hid (And.intro hs5 (And.intro hc5 (And.intro hg5 hr5)))
  clear hs5 hc5 hg5 hr5 hn5 c3 hc3 hg3 hF3 hF3l hr3 hz2 hw2 hz3 hF hn4 hw4
  go_wp2_with fail
  obtain ⟨hs5, hc5, hg5, hr5⟩ := Y.out
  obtain ⟨hc3, hg3, hF3, hF3l, hr3, hz2, hw2, hz3, hF, hn4, hw4⟩ := X.out
  have hr6 := hr5.set_ 0 (.pointer (some ⟨b3, 0, none⟩))
  have d6 := hr6.cell 0
  simp at d6
  refine bodyPost_ret (v := .agg #[.pointer (some ⟨b3, 0, none⟩)]) (by simp [results, Tryz.results35, go_sem, d6]) rfl ?_
  have hall : Chg [] w w5 := by
    have h1 : Chg [] w w2 := by rw [hw2]; exact ((Chg.refl [] w).alloc _).alloc _
    have h2 : Chg [] w w4 := by rw [hw4]; exact (h1.trans hc3 (by simp)).alloc _
    exact h2.trans hc5 (fun k hk => .inr (by have := hF3 k hk; omega))
  have hz4 : w4.heap.size = w3.heap.size + 1 := by rw [hw4]; simp
  have hF5 : ∀ k, k ∈ F5 → w.heap.size + 2 ≤ k := fun k hk => by
    rcases hg5 k hk with h | h
    · have := hF3 k h; omega
    · omega
  refine ⟨b3, F5, rfl, ?_, hall.setCell (.inr (by show w.heap.size ≤ w.heap.size + 1; omega)) _, fun k hk => .inr (by have := hF5 k hk; omega)⟩
  have hT5 : T.foldl ins [] = T := by
    obtain ⟨v, m, _, _, _, hnd, _⟩ := H.out.1
    exact insAll_new T [] (by simpa using hnd)
  rw [hT5] at hs5
  exact hs5.agree (fun k hk => Below.heap_setCell _ _ _ k (by have := hF5 k hk; show k ≠ w.heap.size + 1; omega))
end Go.Proofs.YtgoliddhhichgaaGreatDoor
