/- The walks of the compressed list: its bytes. -/
import Derived.Test.YtgoliddhhichgaaGreatDoorListB
import Derived.Deep.AppendLies
namespace Go.Proofs.YtgoliddhhichgaaGreatDoor
open Go.RowKit Pl

theorem run_append_89 (w : World) (τ : TypeId) (b : Option Addr) (n c : Nat) (x : Value) : (Builtin.append_ #[22, 89] τ #[.slice b n c, x]).run Tryz.prog w = (Builtin.append_ #[22, 22] τ #[.slice b n c, x]).run Tryz.prog w := by
  unfold Builtin.append_
  simp only [List.getElem?_toArray, List.getElem?_cons_zero, List.getElem?_cons_succ]
  have h1 : ∀ w, (underlying 22).run Tryz.prog w = .ok (.slice 5) w := fun w => by simp [underlying, Tryz.underlying22]
  have h2 : ∀ w, (underlying 89).run Tryz.prog w = .ok (.slice 5) w := fun w => by simp [underlying, Tryz.underlying89]
  have h3 : ∀ w, (sizeOf 5).run Tryz.prog w = .ok 1 w := fun w => by
    have hi : (Tryz.prog.info? 5).map (·.size) = some 1 := by kernel_rfl
    cases hx : Tryz.prog.info? 5 with
    | none => rw [hx] at hi; cases hi
    | some i => rw [hx] at hi; simp at hi; simp [sizeOf, typeInfo, hx, hi]
  simp only [Sem.run_bind, h1, h2, h3, Result.andThen_ok, Sem.run_pure]

/-- append of a whole row of bytes, whatever it is. -/
theorem wpApp89 (w : World) {ops : Array Oper} {rest : List Oper} {o : Oper} {a : Act} {Q : Exit → Act → World → Prop} (hgd : o.guard = none) (s x : Operand)
    (ho : o.op = .call { callee := .builtin .append, args := #[s, x], argTypes := #[22, 89] })
    (v : Value) (n : Nat) (xs : List Value) (hs : a.eval s = v) (hown : w.ownsRow 0 5 1 v n xs) (lv : Value) (bs : List Nat) (hx : a.eval x = lv) (hl : Bys w lv bs) (hnm : n + bs.length ≤ 1000000000000)
    (h : ∀ v' w', w'.ownsRow 0 5 1 v' (n + bs.length) (xs ++ bs.map vU8) → w.grownBy w' v.ownBlock → (v'.ownBlock = v.ownBlock ∨ v'.ownBlock = some w.heap.size) → wpList Tryz.prog ops Q rest (a.put o.dst v') w') :
    wpList Tryz.prog ops Q (o :: rest) a w := by
  obtain ⟨i, hi, hz0, hz1, hz2⟩ := info_parts A22.info
  refine wpList_plain hgd fun K hK => ?_
  obtain ⟨b, c, rfl, _⟩ := own_slice hown
  rcases own_form hl with ⟨rfl, h0, hbs⟩ | ⟨g, cap, rfl, _, _, hcell, _, _⟩
  · have hrun := run_append_owned_none (P := Tryz.prog) (w := w) 0 22 o.type 5 i 1 A22.ht hi _ n xs hown
    rw [← run_append_89] at hrun
    unfold Oper.wp
    simp [execOp, ho, resolve, invoke, builtin, hs, hx, hrun, Result.andThen]
    refine hK _ _ (h _ w ?_ (World.grownBy.refl _ _) (.inl rfl))
    rw [h0]
    have : bs = [] := by simpa using hbs
    subst this
    simpa using hown
  · obtain ⟨v', w', hr, h2, h3, h4, h5⟩ := run_append_own_at (P := Tryz.prog) w 0 22 o.type 5 i (.int .u8 0) 1 1 A22.ht hi hz0 hz1 hz2 rfl (by omega) _ n xs hown ⟨g, 0, none⟩ bs.length cap (bs.map vU8) (by simp)
      (fun j u hu => by
        have hadd : (⟨g, 0, none⟩ : Addr).add j = ⟨g, j, none⟩ := by unfold Addr.add; split <;> simp_all
        rw [hadd]
        exact hcell j u hu) (fun u hu => by obtain ⟨a, _, rfl⟩ := List.mem_map.1 hu; rfl) (by unfold maxLen; omega) (by omega) (Nat.zero_le _)
    rw [← run_append_89] at hr
    unfold Oper.wp execOp
    simp only [ho, resolve, invoke, builtin, Sem.run_bind, Sem.run_pure, Result.andThen_ok, List.map_toArray, List.map_cons, List.map_nil, hs, hx, hr]
    exact hK _ _ (h v' w' h2 h3 h5)

set_option maxHeartbeats 400000 in
set_option maxRecDepth 100000 in
/-- (variableLengthList).AppendBinary. -/
theorem vbytes_any (a w : World) (lv v : Value) (bs xs : List Nat) (ha : Chg [] a w) (hd : Data a w v xs) (hl : Bys w lv bs) (hla : ∀ g, lv.ownBlock = some g → g < a.heap.size) (hx : xs.length < 100000000) (hb : bs.length < 100000000) :
    Calls Tryz.prog 85 #[lv, v] w fun e w' => ∃ v', e = .returned (.tuple #[v', .nilIface]) ∧ Chg [] a w' ∧ Data a w' v' (xs ++ be32 bs.length ++ bs) := by
  obtain ⟨ho0, hloc⟩ := hd
  have ho : w.ownsRow 0 5 1 v xs.length (xs.map vU8) := by
    unfold Own at ho0
    rwa [List.length_map] at ho0
  obtain ⟨A, c, rfl, hc⟩ := own_slice ho
  obtain ⟨A2, c2, rfl, hc2⟩ := own_slice hl
  have X := Lib.hid (And.intro ha (And.intro hl (And.intro hla hloc)))
  clear ha hl hla hloc hc ho0 hc2
  go_enter Tryz.func85, Tryz.ntmps85
  go_wp2_with (first
    | (at_builtin; refine wpApp A22 _ rfl _ _ rfl (.slice A xs.length c) _ (xs.map vU8) rfl (ho.alloc _) ⟨w.heap.size, 0, none⟩ 4 4 [.int .u8 (↑bs.length / 16777216), .int .u8 (↑bs.length / 65536 % 256), .int .u8 (↑bs.length / 256 % 256), .int .u8 (↑bs.length % 256)] rfl rfl (cells_new _ _ _) (by simp [Value.oneCell']) (by omega) (by omega) (by omega) ?_; intro g2 cap2 w2 ho2 hg2 hat2 _; have hl2 : Bys w2 (.slice A2 bs.length c2) bs := own_agree X.out.2.1 (fun g hg => (hg2.block g (by have := X.out.2.2.1 g hg; have := X.out.1.size; simp; omega) (fun e => by have := X.out.2.2.1 g hg; have := X.out.2.2.2 g e.symm; omega)).trans (Below.heap_alloc _ _ _ (own_lt X.out.2.1 hg))); have Y := Lib.hid (And.intro hl2 (And.intro hg2 hat2)); clear hl2 hg2 hat2)
    | (refine wpApp89 _ rfl _ _ rfl (.slice (some ⟨g2, 0, none⟩) (xs.length + 4) cap2) _ _ rfl ho2 (.slice A2 bs.length c2) bs rfl Y.out.1 (by omega) ?_; intro v3 w3 ho3 hg3 hat3; have Z := Lib.hid (And.intro ho3 (And.intro hg3 hat3)); clear ho3 hg3 hat3))
  go_ret2
  obtain ⟨ha, hl, hla, hloc⟩ := X.out
  obtain ⟨hl2, hg2, hat2⟩ := Y.out
  obtain ⟨ho3, hg3, hat3⟩ := Z.out
  have hz := ha.size
  have hl2 : ∀ g, (Value.slice (some ⟨g2, 0, none⟩) (xs.length + 4) cap2).ownBlock = some g → a.heap.size ≤ g := fun g hg => by
    simp [Value.ownBlock] at hg
    subst hg
    rcases hat2 with e | e
    · exact hloc _ e
    · simp at e; omega
  have hz2 := hg2.size
  simp at hz2
  refine ⟨v3, rfl, ((ha.alloc _).grown hg2 (fun g hg => .inr (hloc g hg))).grown hg3 (fun g hg => .inr (hl2 g hg)), ?_, ?_⟩
  · have e1 : (be32 bs.length).map vU8 = [.int .u8 ((bs.length : Int) / 16777216), .int .u8 ((bs.length : Int) / 65536 % 256), .int .u8 ((bs.length : Int) / 256 % 256), .int .u8 ((bs.length : Int) % 256)] := by
      simp only [be32, List.map_cons, List.map_nil, vU8, Int.natCast_emod, Int.natCast_ediv]
      rw [show ((bs.length : Int) / (16777216 : Nat) % (256 : Nat)) = (bs.length : Int) / 16777216 by omega]
      rfl
    unfold Own
    rw [List.length_map, List.map_append, List.map_append, e1, List.length_append, List.length_append]
    exact ho3
  · intro g hg
    rcases hat3 with e | e
    · exact hl2 g (e.symm.trans hg)
    · rw [e] at hg; simp at hg; omega
theorem wrap8 (x : Int) : IntKind.u8.wrap x = x % 256 := by simp [IntKind.wrap, IntKind.signed, IntKind.bits]
theorem be32_wrap (n la : Nat) : (be32 n).map vU8 ++ (be32 la).map vU8 = [.int .u8 (IntKind.u8.wrap (↑n / 16777216)), .int .u8 (IntKind.u8.wrap (↑n / 65536)), .int .u8 (IntKind.u8.wrap (↑n / 256)), .int .u8 (IntKind.u8.wrap ↑n), .int .u8 (IntKind.u8.wrap (↑la / 16777216)), .int .u8 (IntKind.u8.wrap (↑la / 65536)), .int .u8 (IntKind.u8.wrap (↑la / 256)), .int .u8 (IntKind.u8.wrap ↑la)] := by
  simp only [be32, List.map_cons, List.map_nil, vU8, wrap8, Int.natCast_emod, Int.natCast_ediv, List.cons_append, List.nil_append]
  rfl

end Go.Proofs.YtgoliddhhichgaaGreatDoor
