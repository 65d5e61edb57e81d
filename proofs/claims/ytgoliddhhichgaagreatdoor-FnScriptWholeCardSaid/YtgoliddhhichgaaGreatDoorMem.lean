/- Words for memory: what has changed, blocks that are known whole, and how a set, a list and a sketch lie in memory. No walk. -/
import Derived.Test.YtgoliddhhichgaaGreatDoorRows
import Derived.Test.YtgoliddhhichgaaGreatDoorBits
import Derived.WalkKit
import Derived.Laws.OwnMore
import Derived.Laws.Rows
import Derived.Deep.Draws
import Derived.Maps.OwnSet
import Derived.Maps.Views
import Derived.Maps.AppendAt
namespace Go.Proofs.YtgoliddhhichgaaGreatDoor
open Go.RowKit Pl

/-- Between w and w' only the blocks of F, and new ones, have turned. -/
structure Chg (F : List Nat) (w w' : World) : Prop where
  os : w'.os = w.os
  tape : w'.tape = w.tape
  output : w'.output = w.output
  size : w.heap.size ≤ w'.heap.size
  block : ∀ k, k < w.heap.size → k ∉ F → w'.heap[k]? = w.heap[k]?

section
variable {F G : List Nat} {a w w' : World}
theorem Chg.refl (F : List Nat) (w : World) : Chg F w w := ⟨rfl, rfl, rfl, Nat.le_refl _, fun _ _ _ => rfl⟩
theorem Chg.trans (h : Chg F a w) (h' : Chg G w w') (hG : ∀ k, k ∈ G → k ∈ F ∨ a.heap.size ≤ k) : Chg F a w' :=
  ⟨h'.os.trans h.os, h'.tape.trans h.tape, h'.output.trans h.output, Nat.le_trans h.size h'.size, fun k hk hF =>
    (h'.block k (Nat.lt_of_lt_of_le hk h.size) (fun hG' => by rcases hG k hG' with h1 | h1; exact hF h1; omega)).trans (h.block k hk hF)⟩
theorem Chg.mono (h : Chg F w w') (hG : ∀ k, k ∈ F → k ∈ G) : Chg G w w' := ⟨h.os, h.tape, h.output, h.size, fun k hk hn => h.block k hk (fun hf => hn (hG k hf))⟩
theorem Chg.drew (h : Chg F a w) : Chg F a w.drew := ⟨h.os, h.tape, h.output, h.size, h.block⟩
theorem Chg.drewN (h : Chg F a w) (n : Nat) : Chg F a (w.drewN n) := ⟨h.os, h.tape, h.output, h.size, h.block⟩
theorem Chg.alloc (h : Chg F a w) (o : Obj) : Chg F a (w.alloc o) :=
  ⟨h.os, h.tape, h.output, Nat.le_trans h.size (by simp), fun k hk hF => (Below.heap_alloc w o k (Nat.lt_of_lt_of_le hk h.size)).trans (h.block k hk hF)⟩
theorem Chg.setCell (h : Chg F a w) {p : Addr} (hp : p.block ∈ F ∨ a.heap.size ≤ p.block) (u : Value) : Chg F a (w.setCell p u) :=
  ⟨h.os, h.tape, h.output, by simpa [World.setCell] using h.size, fun k hk hF => (Below.heap_setCell w p u k (by
    rintro rfl
    rcases hp with hp | hp
    · exact hF hp
    · omega)).trans (h.block k hk hF)⟩
theorem Chg.grown (h : Chg F a w) {row : Option Nat} (hg : w.grownBy w' row) (hr : ∀ g, row = some g → g ∈ F ∨ a.heap.size ≤ g) : Chg F a w' :=
  ⟨hg.os.trans h.os, hg.tape.trans h.tape, hg.output.trans h.output, Nat.le_trans h.size hg.size, fun k hk hF =>
    (hg.block k (Nat.lt_of_lt_of_le hk h.size) (fun e => by rcases hr k e.symm with h1 | h1; exact hF h1; omega)).trans (h.block k hk hF)⟩
theorem Chg.of_grown {row : Option Nat} (hg : w.grownBy w' row) (hr : ∀ g, row = some g → g ∈ F ∨ w.heap.size ≤ g) : Chg F w w' := (Chg.refl F w).grown hg hr
theorem Chg.below (h : Chg F a w) {B : Nat} (hB : B ≤ a.heap.size) (hF : ∀ k, k ∈ F → B ≤ k) : Below B a w :=
  ⟨h.os, h.tape, h.output, h.size, fun k hk => h.block k (by omega) (fun hk' => by have := hF k hk'; omega)⟩
theorem Chg.same (h : Chg F w w') {k : Nat} (hk : k < w.heap.size) (hF : k ∉ F) : w'.heap[k]? = w.heap[k]? := h.block k hk hF
end

/-- Block g is just the cells cs of element type t; none is frozen. -/
def Blk (w : World) (g : Nat) (t : TypeId) (cs : Array Value) : Prop := w.heap[g]? = some (.cells cs t (0, 0))
section
variable {w w' : World} {g : Nat} {t : TypeId} {cs : Array Value} {F : List Nat}
theorem Blk.lt (h : Blk w g t cs) : g < w.heap.size := by
  rcases Nat.lt_or_ge g w.heap.size with hlt | hge
  · exact hlt
  · unfold Blk at h; rw [Array.getElem?_eq_none hge] at h; cases h
theorem Blk.cell (h : Blk w g t cs) (i : Nat) : w.cell? ⟨g, i, none⟩ = cs[i]? := cell_of_row w g i cs t (0, 0) h
theorem Blk.frozen (h : Blk w g t cs) (i : Nat) : w.frozen? ⟨g, i, none⟩ = false := by
  unfold Blk at h
  simp [World.frozen?, h]
theorem Blk.new (w : World) (t : TypeId) (cs : Array Value) : Blk (w.alloc (.cells cs t)) w.heap.size t cs := heap_alloc_new w _
theorem Blk.drew (h : Blk w g t cs) : Blk w.drew g t cs := h
theorem Blk.drewN (h : Blk w g t cs) (n : Nat) : Blk (w.drewN n) g t cs := h
theorem Blk.alloc (h : Blk w g t cs) (o : Obj) : Blk (w.alloc o) g t cs := (Below.heap_alloc w o g h.lt).trans h
theorem Blk.set_ (h : Blk w g t cs) (i : Nat) (u : Value) : Blk (w.setCell ⟨g, i, none⟩ u) g t (cs.setIfInBounds i u) := by
  unfold Blk at h ⊢
  simp [World.setCell, Array.getElem?_modify, h]
theorem Blk.far (h : Blk w g t cs) {p : Addr} (hp : g ≠ p.block) (u : Value) : Blk (w.setCell p u) g t cs := (Below.heap_setCell w p u g hp).trans h
theorem Blk.agree (h : Blk w g t cs) (ha : w'.heap[g]? = w.heap[g]?) : Blk w' g t cs := ha.trans h
theorem Blk.chg (h : Blk w g t cs) (hc : Chg F w w') (hg : g ∉ F) : Blk w' g t cs := h.agree (hc.same h.lt hg)
theorem Blk.grown {row : Option Nat} (h : Blk w g t cs) (hb : w.grownBy w' row) (hg : some g ≠ row) : Blk w' g t cs := (hb.block g h.lt hg).trans h
theorem Blk.ne_ {g' : Nat} {t' : TypeId} {cs' : Array Value} (h : Blk w g t cs) (h' : Blk w g' t' cs') (hne : t ≠ t') : g ≠ g' := by
  rintro rfl
  unfold Blk at h h'
  rw [h] at h'
  injection h' with h'
  injection h' with _ ht
  exact hne ht
end

/-- A row of one-cell elements that a slice value owns, by the kit's word, wherever it lies. -/
abbrev Own (w : World) (e : TypeId) (v : Value) (xs : List Value) : Prop := w.ownsRow 0 e 1 v xs.length xs
section
variable {w w' : World} {e : TypeId} {v : Value} {xs : List Value} {n : Nat}
theorem own_agree (h : w.ownsRow 0 e 1 v n xs) (ha : ∀ g, v.ownBlock = some g → w'.heap[g]? = w.heap[g]?) : w'.ownsRow 0 e 1 v n xs := by
  refine ⟨h.1, ?_⟩
  rcases h.2 with hn | ⟨g, cap, cur, rfl, hb, hgg, rest⟩
  · exact .inl hn
  · exact .inr ⟨g, cap, cur, rfl, hb, (ha g rfl).trans hgg, rest⟩
theorem own_lt (h : w.ownsRow 0 e 1 v n xs) {g : Nat} (hg : v.ownBlock = some g) : g < w.heap.size := (h.lt g hg).2
theorem own_ne {t : TypeId} {cs : Array Value} {g : Nat} (h : w.ownsRow 0 e 1 v n xs) (hg : Blk w g t cs) (hne : e ≠ t) : v.ownBlock ≠ some g := by
  rcases h.2 with ⟨rfl, _⟩ | ⟨g', cap, cur, rfl, _, hh, _⟩
  · simp [Value.ownBlock]
  · intro he
    have : g' = g := by simpa [Value.ownBlock] using he
    subst this
    exact Blk.ne_ (t := e) hh hg hne rfl
/-- What the value is: nil and nothing owned, or the head of a row. -/
theorem own_form (h : w.ownsRow 0 e 1 v n xs) : (v = .slice none 0 0 ∧ n = 0 ∧ xs = []) ∨
    ∃ g cap, v = .slice (some ⟨g, 0, none⟩) n cap ∧ n ≤ cap ∧ cap ≤ maxLen ∧ (∀ j u, xs[j]? = some u → w.cell? ⟨g, j, none⟩ = some u) ∧ (∀ j, w.frozen? ⟨g, j, none⟩ = false) ∧ g < w.heap.size := by
  rcases h.2 with ⟨rfl, hn⟩ | ⟨g, cap, cur, rfl, hb, hgg, hnc, hcm, hcur, htake⟩
  · subst hn
    exact .inl ⟨rfl, rfl, List.eq_nil_of_length_eq_zero (by simpa using h.1)⟩
  · refine .inr ⟨g, cap, rfl, hnc, hcm, fun j u hu => ?_, fun j => ?_, (Array.getElem?_eq_some_iff.1 hgg).1⟩
    · have := h.cells (g := g) rfl j u hu
      have hadd : (⟨g, 0, none⟩ : Addr).add j = ⟨g, j, none⟩ := by unfold Addr.add; split <;> simp_all
      rwa [hadd] at this
    · simp [World.frozen?, hgg]
end

def vU32 (k : Nat) : Value := .int .u32 (k : Int)
def vU8 (k : Nat) : Value := .int .u8 (k : Int)
def vU64 (k : Nat) : Value := .int .u64 (k : Int)

/-- A map[..]bool at block m that says true of just the keys of T. -/
def MapAt (w : World) (q : IntKind) (K : TypeId) (m : Nat) (T : List Nat) : Prop :=
  ∃ D : DataW Unit, w.ownsMap Tryz.prog K (plainElem Tryz.prog 4) m T.length D ∧ ∀ k : Nat, D.atKey (.int q (k : Int)) (.lit (.bool false)) = .lit (.bool (decide (k ∈ T)))

/-- A set of keys at block b, with its footprint. -/
def SetAt (w : World) (b : Nat) (F : List Nat) (T : List Nat) : Prop :=
  ∃ v m, Blk w b 113 #[v, .map (some m)] ∧ Own w 35 v (T.map vU32) ∧ MapAt w .u32 35 m T ∧ T.Nodup ∧ (∀ k, k ∈ T → k < 4294967296) ∧ F = b :: m :: v.ownBlock.toList ∧ F.Nodup

/-! ### Varints: plain -/
def vint (x : Nat) : List Nat := if x < 128 then [x] else (x % 128 + 128) :: vint (x / 128)
def bytesFrom : Nat → List Nat → List Nat
  | _, [] => []
  | last, k :: r => vint ((k + 4294967296 - last) % 4294967296) ++ bytesFrom k r
def bytesOf (L : List Nat) : List Nat := bytesFrom 0 L

/-- A list of keys at block b. -/
def ListAt (w : World) (b : Nat) (F : List Nat) (L : List Nat) : Prop :=
  ∃ v, Blk w b 93 #[vU32 L.length, vU32 (L.getLastD 0), v] ∧ Own w 5 v ((bytesOf L).map vU8) ∧ (∀ k, k ∈ L → k < 4294967296) ∧ F = b :: v.ownBlock.toList ∧ F.Nodup

inductive Rep where
  | sparse (T L : List Nat)
  | dense (R : List Nat)

/-- A sketch at block b. -/
def SkAt (w : World) (b : Nat) (F : List Nat) (p : Nat) : Rep → Prop
  | .sparse T L => ∃ al bt Ft bl Fl, Blk w b 59 #[.int .u8 p, .int .u32 ((2 ^ p : Nat) : Int), .float .f64 al, .pointer (some ⟨bt, 0, none⟩), .pointer (some ⟨bl, 0, none⟩), .slice none 0 0] ∧
      SetAt w bt Ft T ∧ ListAt w bl Fl L ∧ F = b :: (Ft ++ Fl) ∧ F.Nodup
  | .dense R => ∃ al v, Blk w b 59 #[.int .u8 p, .int .u32 ((2 ^ p : Nat) : Int), .float .f64 al, .pointer none, .pointer none, v] ∧
      Own w 5 v (R.map vU8) ∧ R.length = 2 ^ p ∧ (∀ r, r ∈ R → r < 256) ∧ F = b :: v.ownBlock.toList ∧ F.Nodup

section
variable {w w' : World} {b m p : Nat} {F G T L : List Nat} {q : IntKind} {K : TypeId}
theorem MapAt.agree (h : MapAt w q K m T) (ha : w'.heap[m]? = w.heap[m]?) : MapAt w' q K m T := by
  obtain ⟨D, ⟨es, clock, hb, hF, hs, hD⟩, hk⟩ := h
  exact ⟨D, ⟨es, clock, ha.trans hb, hF, hs, hD⟩, hk⟩
theorem MapAt.lt (h : MapAt w q K m T) : m < w.heap.size := by
  obtain ⟨D, h, _⟩ := h
  exact h.lt
theorem SetAt.agree (h : SetAt w b F T) (ha : ∀ k, k ∈ F → w'.heap[k]? = w.heap[k]?) : SetAt w' b F T := by
  obtain ⟨v, m, hb, ho, hm, hn, hlt, rfl, hnd⟩ := h
  exact ⟨v, m, hb.agree (ha _ (by simp)), own_agree ho (fun g hg => ha g (by simp [hg])), hm.agree (ha _ (by simp)), hn, hlt, rfl, hnd⟩
theorem SetAt.lt (h : SetAt w b F T) : ∀ k, k ∈ F → k < w.heap.size := by
  obtain ⟨v, m, hb, ho, hm, hn, hlt, rfl, hnd⟩ := h
  intro k hk
  simp only [List.mem_cons, Option.mem_toList] at hk
  rcases hk with rfl | rfl | hk
  · exact hb.lt
  · exact hm.lt
  · exact own_lt ho hk
theorem ListAt.agree (h : ListAt w b F L) (ha : ∀ k, k ∈ F → w'.heap[k]? = w.heap[k]?) : ListAt w' b F L := by
  obtain ⟨v, hb, ho, hlt, rfl, hnd⟩ := h
  exact ⟨v, hb.agree (ha _ (by simp)), own_agree ho (fun g hg => ha g (by simp [hg])), hlt, rfl, hnd⟩
theorem ListAt.lt (h : ListAt w b F L) : ∀ k, k ∈ F → k < w.heap.size := by
  obtain ⟨v, hb, ho, hlt, rfl, hnd⟩ := h
  intro k hk
  simp only [List.mem_cons, Option.mem_toList] at hk
  rcases hk with rfl | hk
  · exact hb.lt
  · exact own_lt ho hk
theorem SkAt.agree {S : Rep} (h : SkAt w b F p S) (ha : ∀ k, k ∈ F → w'.heap[k]? = w.heap[k]?) : SkAt w' b F p S := by
  cases S with
  | sparse T L =>
    obtain ⟨al, bt, Ft, bl, Fl, hb, ht, hl, rfl, hnd⟩ := h
    exact ⟨al, bt, Ft, bl, Fl, hb.agree (ha _ (by simp)), ht.agree (fun k hk => ha k (by simp [hk])), hl.agree (fun k hk => ha k (by simp [hk])), rfl, hnd⟩
  | dense R =>
    obtain ⟨al, v, hb, ho, hR, h256, rfl, hnd⟩ := h
    exact ⟨al, v, hb.agree (ha _ (by simp)), own_agree ho (fun g hg => ha g (by simp [hg])), hR, h256, rfl, hnd⟩
theorem SkAt.lt {S : Rep} (h : SkAt w b F p S) : ∀ k, k ∈ F → k < w.heap.size := by
  cases S with
  | sparse T L =>
    obtain ⟨al, bt, Ft, bl, Fl, hb, ht, hl, rfl, hnd⟩ := h
    intro k hk
    simp only [List.mem_cons, List.mem_append] at hk
    rcases hk with rfl | hk | hk
    · exact hb.lt
    · exact ht.lt k hk
    · exact hl.lt k hk
  | dense R =>
    obtain ⟨al, v, hb, ho, hR, h256, rfl, hnd⟩ := h
    intro k hk
    simp only [List.mem_cons, Option.mem_toList] at hk
    rcases hk with rfl | hk
    · exact hb.lt
    · exact own_lt ho hk
theorem SkAt.mem {S : Rep} (h : SkAt w b F p S) : b ∈ F := by
  cases S with
  | sparse T L => obtain ⟨al, bt, Ft, bl, Fl, hb, ht, hl, rfl, hnd⟩ := h; simp
  | dense R => obtain ⟨al, v, hb, ho, hR, h256, rfl, hnd⟩ := h; simp
theorem SkAt.chg {S : Rep} (h : SkAt w b F p S) (hc : Chg G w w') (hd : ∀ k, k ∈ F → k ∉ G) : SkAt w' b F p S := h.agree fun k hk => hc.same (h.lt k hk) (hd k hk)
theorem SetAt.chg (h : SetAt w b F T) (hc : Chg G w w') (hd : ∀ k, k ∈ F → k ∉ G) : SetAt w' b F T := h.agree fun k hk => hc.same (h.lt k hk) (hd k hk)
theorem ListAt.chg (h : ListAt w b F L) (hc : Chg G w w') (hd : ∀ k, k ∈ F → k ∉ G) : ListAt w' b F L := h.agree fun k hk => hc.same (h.lt k hk) (hd k hk)
end
end Go.Proofs.YtgoliddhhichgaaGreatDoor
