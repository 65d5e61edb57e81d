/- A law on regions that draw their order: the last operation, which waits for all others, may be parted off. -/
import Derived.Deep.RegionHeld3
namespace Go.Proofs.YtgoliddhhichgaaGreatDoor
open Go

theorem getD_push (listed : Array Bool) (i : Nat) : (listed.push false).getD i false = listed.getD i false := by
  rcases Nat.lt_trichotomy i listed.size with h | h | h
  · simp [Array.getD, Array.getElem_push, h, Nat.lt_succ_of_lt h]
  · subst h; simp [Array.getD]
  · simp [Array.getD, Nat.not_lt.2 (Nat.le_of_lt h), show ¬ i < listed.size + 1 by omega]
theorem getD_push_lt (listed : Array Bool) (i : Nat) (h : i < listed.size) : (listed.push false).getD i true = listed.getD i true := by
  simp [Array.getD, Array.getElem_push, h, Nat.lt_succ_of_lt h]

/-- What is asked of the region: no operation is guarded, each waits for earlier ones alone, the last one for all others. -/
def lastB (l : List Oper) (st : Oper) : Bool :=
  (List.range l.length).all (fun i => (l[i]?.map fun o => o.guard.isNone && o.after.all fun e => decide (e.on < i)).getD false) &&
  st.guard.isNone && st.after.all (fun e => decide (e.on < l.length)) &&
  (List.range l.length).all fun i => st.after.any fun e => Region.binds .any e && decide (e.on = i)

structure LastP (l : List Oper) (st : Oper) : Prop where
  plain : ∀ (i : Nat) o, l[i]? = some o → o.guard = none
  early : ∀ (i : Nat) o, l[i]? = some o → ∀ e ∈ o.after, e.on < i
  stplain : st.guard = none
  stearly : ∀ e ∈ st.after, e.on < l.length
  waits : ∀ i, i < l.length → ∃ e ∈ st.after, Region.binds .any e = true ∧ e.on = i

theorem lastP {l : List Oper} {st : Oper} (h : lastB l st = true) : LastP l st := by
  unfold lastB at h
  simp only [Bool.and_eq_true, List.all_eq_true, List.mem_range, Option.isNone_iff_eq_none, Array.all_eq_true', decide_eq_true_eq] at h
  obtain ⟨⟨⟨h1, h2⟩, h3⟩, h4⟩ := h
  have h1' : ∀ (i : Nat) o, l[i]? = some o → o.guard = none ∧ ∀ e ∈ o.after, e.on < i := fun i o ho => by
    have := h1 i (List.getElem?_eq_some_iff.1 ho).1
    rw [ho] at this
    simp only [Option.map_some, Option.getD_some, Bool.and_eq_true, Option.isNone_iff_eq_none, Array.all_eq_true', decide_eq_true_eq] at this
    exact this
  refine ⟨fun i o ho => (h1' i o ho).1, fun i o ho => (h1' i o ho).2, h2, h3, fun i hi => ?_⟩
  obtain ⟨e, he, hb⟩ := Array.any_eq_true'.1 (h4 i hi)
  simp only [Bool.and_eq_true, decide_eq_true_eq] at hb
  exact ⟨e, he, hb⟩

theorem ready_push (l : List Oper) (st : Oper) (listed : Array Bool) (hs : listed.size = l.length) :
    Region.ready .any (l ++ [st]).toArray (listed.push false) = Region.ready .any l.toArray listed ++ (if (st.after.all fun e => !Region.binds .any e || listed.getD e.on false) = true then [l.length] else []) := by
  unfold Region.ready
  have e1 : ((l ++ [st]).toArray).size = l.length + 1 := by simp
  have e2 : (l.toArray).size = l.length := by simp
  rw [e1, e2, List.range_succ, List.filter_append]
  congr 1
  · apply List.filter_congr
    intro i hi
    rw [List.mem_range] at hi
    rw [getD_push_lt listed i (by omega)]
    simp only [getD_push]
    congr 2
    simp [List.getElem?_append_left hi]
  · have h1 : (listed.push false).getD l.length true = false := by rw [← hs]; simp [Array.getD]
    have h2 : ((l ++ [st]).toArray)[l.length]? = some st := by simp
    simp only [List.filter_cons, List.filter_nil, h1, h2, getD_push, Option.map_some, Option.getD_some, Bool.not_false, Bool.true_and]

theorem stuck_all {l : List Oper} {st : Oper} (hp : LastP l st) {listed : Array Bool} (hs : listed.size = l.length) (hr : Region.ready .any l.toArray listed = []) : ∀ i, i < l.length → listed.getD i false = true := by
  intro i
  induction i using Nat.strongRecOn with
  | ind i ih =>
    intro hi
    cases hl : listed.getD i false with
    | true => rfl
    | false =>
      have ho : l[i]? = some l[i] := List.getElem?_eq_getElem hi
      have : i ∈ Region.ready .any l.toArray listed := by
        refine mem_ready.2 ⟨?_, l[i], by simp, fun e he _ => ?_⟩
        · have hi' : i < listed.size := by omega
          simp [hi'] at hl ⊢
          exact hl
        · have h1 := hp.early i _ ho e he
          exact ih _ h1 (by omega)
      rw [hr] at this
      cases this
theorem st_ready {l : List Oper} {st : Oper} (hp : LastP l st) {listed : Array Bool} : ((st.after.all fun e => !Region.binds .any e || listed.getD e.on false) = true) ↔ ∀ i, i < l.length → listed.getD i false = true := by
  rw [Array.all_eq_true']
  constructor
  · intro h i hi
    obtain ⟨e, he, hb, hon⟩ := hp.waits i hi
    have := h e he
    rw [hb, hon] at this
    simpa using this
  · intro h e he
    rw [h e.on (hp.stearly e he)]
    simp
theorem ready_nil {l : List Oper} {listed : Array Bool} (hs : listed.size = l.length) (h : ∀ i, i < l.length → listed.getD i false = true) : Region.ready .any l.toArray listed = [] := by
  rw [List.eq_nil_iff_forall_not_mem]
  intro i hi
  obtain ⟨h1, o, ho, _⟩ := mem_ready.1 hi
  have hi' : i < l.length := by
    rcases Nat.lt_or_ge i l.length with h' | h'
    · exact h'
    · simp [List.getElem?_eq_none h'] at ho
  have h2 := h i hi'
  have hi2 : i < listed.size := by omega
  simp [hi2] at h1 h2
  rw [h1] at h2
  cases h2

theorem upon_last {P : Program} {o : Oper} {a : Act} {K K' : Act → World → Prop} {N : Act → World → Prop} {Q : Exit → Act → World → Prop} {r : Result Next} (hK : ∀ a w, K a w → K' a w) (h : o.upon P a K (Exit.then N Q) r) : o.upon P a K' Q r := by
  cases r with
  | ok n w' =>
    cases n <;> simp only [Oper.upon] at h ⊢ <;>
      first
        | exact hK _ _ h
        | exact Calls.mono h (fun e w'' he => by cases e <;> first | exact hK _ _ he | exact he)
        | exact Rows.mono h (fun _ _ he => hK _ _ he)
  | halt x w' => cases x <;> simp only [Oper.upon] at h ⊢ <;> exact h

theorem wpOp_last {P : Program} {l : List Oper} {st : Oper} (hp : LastP l st) {Q : Exit → Act → World → Prop} {N K K' : Act → World → Prop} {i : Nat} {a : Act} {w : World} (hi : i < l.length) (hK : ∀ a w, K a w → K' a w) (h : wpOp P l.toArray (Exit.then N Q) i K a w) :
    wpOp P (l ++ [st]).toArray Q i K' a w := by
  have ho : l[i]? = some l[i] := List.getElem?_eq_getElem hi
  have e1 : l.toArray[i]? = some l[i] := by simp
  have e2 : (l ++ [st]).toArray[i]? = some l[i] := by simp [List.getElem?_append_left hi]
  have hg := hp.plain i _ ho
  unfold wpOp at *
  simp only [e1, e2] at *
  have hw : ∀ y, Region.wanted l[i] y = true := fun y => by simp [Region.wanted, hg]
  rw [if_pos (hw _)] at h ⊢
  rcases h with h | ⟨h1, h2⟩
  · exact .inl (upon_last hK h)
  · exact .inr ⟨h1, h2⟩

theorem any_last {P : Program} {l : List Oper} {st : Oper} (hp : LastP l st) {Q : Exit → Act → World → Prop} {K : Act → World → Prop}
    (hK : ∀ a w, K a w → wpOp P (l ++ [st]).toArray Q l.length (fun a' w' => Q .normal a' w') a w) :
    ∀ (f : Nat) (listed : Array Bool) (a : Act) (w : World), listed.size = l.length → wpAny P .any l.toArray (Exit.then K Q) f listed a w → wpAny P .any (l ++ [st]).toArray Q (f + 1) (listed.push false) a w := by
  -- behind the last one nothing is left
  have hend : ∀ (listed : Array Bool), listed.size = l.length → (∀ i, i < l.length → listed.getD i false = true) → ∀ f a w, Q .normal a w → wpAny P .any (l ++ [st]).toArray Q f ((listed.push false).setIfInBounds l.length true) a w := by
    intro listed hs hall f a w hq
    have hr : Region.ready .any (l ++ [st]).toArray ((listed.push false).setIfInBounds l.length true) = [] := by
      refine ready_nil (by simp [hs]) fun i hi => ?_
      rw [List.length_append] at hi
      by_cases h : i = l.length
      · subst h
        simp [hs]
      · rw [getD_set_ne false (Ne.symm h), getD_push]
        exact hall i (by simp at hi; omega)
    cases f with
    | zero => exact ⟨hr, hq⟩
    | succ f => exact ⟨fun _ => hq, by rw [hr]; simp⟩
  have hlast : ∀ (listed : Array Bool), listed.size = l.length → (∀ i, i < l.length → listed.getD i false = true) → ∀ f a w, K a w → wpAny P .any (l ++ [st]).toArray Q (f + 1) (listed.push false) a w := by
    intro listed hs hall f a w hk
    have hr : Region.ready .any (l ++ [st]).toArray (listed.push false) = [l.length] := by
      rw [ready_push l st listed hs, ready_nil hs hall, if_pos ((st_ready hp).2 hall)]
      rfl
    refine ⟨fun h => absurd (hr ▸ h) (by simp), fun i hi => ?_⟩
    rw [hr, List.mem_singleton] at hi
    subst hi
    exact wpOp_mono (fun a' w' h => hend listed hs hall f a' w' h) (hK a w hk)
  intro f
  induction f with
  | zero =>
    intro listed a w hs h
    exact hlast listed hs (stuck_all hp hs h.1) 0 a w h.2
  | succ f ih =>
    intro listed a w hs h
    by_cases hr : Region.ready .any l.toArray listed = []
    · exact hlast listed hs (stuck_all hp hs hr) _ a w (h.1 hr)
    · have hnot : ¬ ∀ i, i < l.length → listed.getD i false = true := fun hall => hr (ready_nil hs hall)
      have hre : Region.ready .any (l ++ [st]).toArray (listed.push false) = Region.ready .any l.toArray listed := by
        rw [ready_push l st listed hs, if_neg (fun h => hnot ((st_ready hp).1 h)), List.append_nil]
      refine ⟨fun h0 => absurd (hre ▸ h0) hr, fun i hi => ?_⟩
      rw [hre] at hi
      have hil : i < l.length := by
        obtain ⟨_, o, ho, _⟩ := mem_ready.1 hi
        rcases Nat.lt_or_ge i l.length with h' | h'
        · exact h'
        · simp [List.getElem?_eq_none h'] at ho
      have e : (listed.push false).setIfInBounds i true = (listed.setIfInBounds i true).push false := by
        apply Array.ext
        · simp
        · intro j h1 h2
          have hil' : i < listed.size := by omega
          by_cases hj : j < listed.size
          · rw [Array.getElem_push_lt (by simpa using hj), Array.getElem_setIfInBounds, Array.getElem_setIfInBounds, Array.getElem_push_lt hj]
            simp
            omega
          · have hj' : j = listed.size := by simp at h1; omega
            subst hj'
            rw [Array.getElem_setIfInBounds (by simp)]
            have e0 : (listed.setIfInBounds i true).size = listed.size := by simp
            simp [Nat.ne_of_lt hil', Array.getElem_push, e0]
      rw [e]
      exact wpOp_last hp hil (fun a' w' h' => ih _ a' w' (by simp [hs]) h') (h.2 i hi)

/-- THE LAW. -/
theorem wp_region_last {P : Program} {id : Nat} {L : List Oper} {Q : Exit → Act → World → Prop} {a : Act} {w : World} (S : World → Prop) (n : Nat) (l : List Oper) (st : Oper) (hL : L = l ++ [st]) (hn : l.length = n) (hm : P.follows .mixedOrders = true)
    (hB : lastB l st = true) (hS : S w.drew)
    (h : ∀ K : Act → World → Prop, (∀ a w, wpList P L.toArray Q [st] a w → K a w) → S w.drew → wpAnyH P .any l.toArray (Exit.then K Q) S n (Array.replicate n false) a w.drew) :
    (Code.region id L.toArray true).wp P Q a w := by
  subst hL
  subst hn
  have hp := lastP hB
  refine wp_region_any hm ?_
  have h1 := wpAny_of_held _ _ _ _ (h (fun a w => wpList P (l ++ [st]).toArray Q [st] a w) (fun _ _ h => h) hS)
  have h2 := any_last hp (K := fun a w => wpList P (l ++ [st]).toArray Q [st] a w) (Q := Q) (fun a w hk => ?_) l.length _ a w.drew (by simp) h1
  · have e1 : (l ++ [st]).toArray.size = l.length + 1 := by simp
    have e2 : Array.replicate (l.length + 1) false = (Array.replicate l.length false).push false := by rw [Array.replicate_succ]
    rw [e1, e2]
    exact h2
  · have e2 : (l ++ [st]).toArray[l.length]? = some st := by simp
    unfold wpOp
    simp only [e2]
    exact hk

def lastLB (L : List Oper) (n : Nat) : Bool :=
  match L.drop n with
  | [st] => lastB (L.take n) st && decide ((L.take n).length = n)
  | _ => false
theorem wp_region_last' {P : Program} {id : Nat} {L : List Oper} {Q : Exit → Act → World → Prop} {a : Act} {w : World} (S : World → Prop) (n : Nat) (hm : P.follows .mixedOrders = true)
    (hB : lastLB L n = true) (hS : S w.drew)
    (h : ∀ K : Act → World → Prop, (∀ a w, wpList P L.toArray Q (L.drop n) a w → K a w) → S w.drew → wpAnyH P .any (L.take n).toArray (Exit.then K Q) S n (Array.replicate n false) a w.drew) :
    (Code.region id L.toArray true).wp P Q a w := by
  unfold lastLB at hB
  cases hd : L.drop n with
  | nil => rw [hd] at hB; cases hB
  | cons st rest =>
    cases rest with
    | cons _ _ => rw [hd] at hB; cases hB
    | nil =>
      rw [hd] at hB h
      simp only [Bool.and_eq_true, decide_eq_true_eq] at hB
      refine wp_region_last S n (L.take n) st (by rw [← hd, List.take_append_drop]) hB.2 hm hB.1 hS h

/-- 'wpAnyH_take', the slot named. -/
theorem take_at {P : Program} {md : Region.Mode} {ops : Array Oper} {Q : Exit → Act → World → Prop} {S : World → Prop} (i d : Nat) {oi : Oper} {v : Value} {fuel : Nat} {listed : Array Bool} {a : Act} {w : World} (hi : ops[i]? = some oi) (hd : oi.dst = some d)
    (hs : Region.noSelect ops = true) (hf : Region.free md ops listed i = true) (hr : (Region.ready md ops listed).contains i = true)
    (hQ : ∀ c a w, Q (.panic c) (a.put oi.dst v) w → Q (.panic c) a w) (hy : YieldsIf P ops S oi v a) (hS : S w)
    (h : wpAnyH P md ops Q S fuel (listed.setIfInBounds i true) (a.put (some d) v) w) : wpAnyH P md ops Q S (fuel + 1) listed a w := by
  rw [← hd] at h
  exact wpAnyH_take hi hs hf hr hQ hy hS h
end Go.Proofs.YtgoliddhhichgaaGreatDoor
