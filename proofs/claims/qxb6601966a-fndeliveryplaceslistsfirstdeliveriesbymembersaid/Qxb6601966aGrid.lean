/-
  Two rows of rows that grow by append: byMember and byAt of FnDeliveryPlacesListsFirstDeliveriesByMember, in memory; what they hold, plainly.
-/
import Derived.Test.Qxb6601966aLaws
import Derived.Test.Qxb6601966aIgnore
namespace Go.Proofs.Qxb6601966a
open Go Go.RowKit

theorem cells_one (w : World) (v : Value) (t : TypeId) : ∀ j u, [v][j]? = some u → (w.alloc (.cells #[v] t)).cell? ((⟨w.heap.size, 0, none⟩ : Addr).add j) = some u := by
  intro j u hj
  rw [Addr.add_lit, Nat.zero_add, cell_of_row _ w.heap.size j #[v] t (0, 0) (heap_alloc_new w _)]
  simpa using hj

/-- The block of the one and of the other row. -/
def gbf (g0 g1 : Nat) : Bool → Nat
  | false => g0
  | true => g1
def upd {α : Type} (V : Bool → Nat → α) (s : Bool) (x : Nat) (v : α) : Bool → Nat → α := fun s' x' => if s' = s ∧ x' = x then v else V s' x'

structure GM (W wr : World) (sb g0 g1 n : Nat) (V : Bool → Nat → Value) (X : Bool → Nat → List Int) : Prop where
  cell : ∀ s x, x < n → wr.cell? ⟨gbf g0 g1 s, x, none⟩ = some (V s x) ∧ wr.frozen? ⟨gbf g0 g1 s, x, none⟩ = false
  own : ∀ s x, x < n → wr.ownsRow W.heap.size 3 1 (V s x) (X s x).length ((X s x).map (Value.int .i64))
  apart : ∀ s x s' x', x < n → x' < n → ¬ (s = s' ∧ x = x') → (V s x).ownBlock = none ∨ (V s x).ownBlock ≠ (V s' x').ownBlock
  os : wr.os = W.os
  tape : wr.tape = W.tape
  output : wr.output = W.output
  size : W.heap.size ≤ wr.heap.size
  block : ∀ k, k < W.heap.size → k ≠ sb → k ≠ g0 → k ≠ g1 → wr.heap[k]? = W.heap[k]?

theorem GM.start {W : World} {sb g0 g1 n : Nat} (h0 : AllAt W g0 n (.slice none 0 0)) (h1 : AllAt W g1 n (.slice none 0 0)) : GM W W sb g0 g1 n (fun _ _ => .slice none 0 0) (fun _ _ => []) := by
  refine ⟨fun s x hx => ?_, fun s x _ => World.ownsRow_nil _ _ _ _, fun s x s' x' _ _ _ => .inl rfl, rfl, rfl, rfl, Nat.le_refl _, fun _ _ _ _ _ => rfl⟩
  cases s
  · exact h0 x hx
  · exact h1 x hx
theorem GM.congr {W wr : World} {sb g0 g1 n : Nat} {V : Bool → Nat → Value} {X X' : Bool → Nat → List Int} (h : GM W wr sb g0 g1 n V X) (e : ∀ s x, x < n → X s x = X' s x) : GM W wr sb g0 g1 n V X' :=
  ⟨h.cell, fun s x hx => by rw [← e s x hx]; exact h.own s x hx, h.apart, h.os, h.tape, h.output, h.size, h.block⟩
theorem GM.below {W wr : World} {sb g0 g1 n B : Nat} {V : Bool → Nat → Value} {X : Bool → Nat → List Int} (h : GM W wr sb g0 g1 n V X) (hB : B ≤ W.heap.size) (h0 : B ≤ sb) (h1 : B ≤ g0) (h2 : B ≤ g1) : Below B W wr :=
  ⟨h.os, h.tape, h.output, h.size, fun k hk => h.block k (by omega) (by omega) (by omega) (by omega)⟩

theorem GM.seen {W wr : World} {sb g0 g1 n : Nat} {V : Bool → Nat → Value} {X : Bool → Nat → List Int} (h : GM W wr sb g0 g1 n V X) (hs : sb < W.heap.size) (hn0 : sb ≠ g0) (hn1 : sb ≠ g1) (y : Nat) (u : Value) : GM W (wr.setCell ⟨sb, y, none⟩ u) sb g0 g1 n V X := by
  have hgr : wr.grownBy (wr.setCell ⟨sb, y, none⟩ u) (some sb) := ⟨rfl, rfl, rfl, by simp [World.setCell], fun _ _ hk => Below.heap_setCell _ _ _ _ (fun e => hk (by rw [e]))⟩
  refine ⟨fun s x hx => ?_, fun s x hx => (h.own s x hx).kept hgr ?_, h.apart, h.os, h.tape, h.output, by rw [World.size_setCell]; exact h.size, fun k hk k1 k2 k3 => ?_⟩
  · have hne : gbf g0 g1 s ≠ sb := by cases s <;> simp only [gbf] <;> omega
    rw [World.frozen?_setCell, World.cell?_setCell_other _ _ _ _ (fun e => hne (congrArg Addr.block e).symm)]
    exact h.cell s x hx
  · right
    intro e
    have := (h.own s x hx).lt sb e
    omega
  · rw [Below.heap_setCell _ _ _ _ (by simpa using k1)]
    exact h.block k hk k1 k2 k3

/-- An append onto one row, and the store of its value. -/
theorem GM.step {W wr w2 : World} {sb g0 g1 n : Nat} {V : Bool → Nat → Value} {X : Bool → Nat → List Int} (h : GM W wr sb g0 g1 n V X) (h0 : g0 < W.heap.size) (h1 : g1 < W.heap.size) (hne : g0 ≠ g1) (s : Bool) {x : Nat} (hx : x < n) {o : Obj} {g cap len : Nat} {z : Int}
    (hlen : len = (X s x).length + 1) (hown : w2.ownsRow W.heap.size 3 1 (.slice (some ⟨g, 0, none⟩) len cap) len ((X s x).map (Value.int .i64) ++ [.int .i64 z])) (hgr : (wr.alloc o).grownBy w2 (V s x).ownBlock) (hloc : (V s x).ownBlock = some g ∨ g = wr.heap.size + 1) :
    (∀ s' x', x' < n → w2.cell? ⟨gbf g0 g1 s', x', none⟩ = some (V s' x') ∧ w2.frozen? ⟨gbf g0 g1 s', x', none⟩ = false) ∧
    GM W (w2.setCell ⟨gbf g0 g1 s, x, none⟩ (.slice (some ⟨g, 0, none⟩) len cap)) sb g0 g1 n (upd V s x (.slice (some ⟨g, 0, none⟩) len cap)) (upd X s x (X s x ++ [z])) ∧
    ∀ k, k < W.heap.size → k ≠ gbf g0 g1 s → (w2.setCell ⟨gbf g0 g1 s, x, none⟩ (.slice (some ⟨g, 0, none⟩) len cap)).heap[k]? = wr.heap[k]? := by
  have hgl : ∀ s, gbf g0 g1 s < W.heap.size := fun s => by cases s <;> simpa [gbf]
  have hinj : ∀ s', s' ≠ s → gbf g0 g1 s' ≠ gbf g0 g1 s := fun s' hs => by cases s <;> cases s' <;> simp [gbf] at hs ⊢ <;> omega
  have hold : ∀ k, k < W.heap.size → w2.heap[k]? = wr.heap[k]? := by
    intro k hk
    have hk2 : k < wr.heap.size := Nat.lt_of_lt_of_le hk h.size
    rw [hgr.block k (by simp; omega) (fun e => by have := (h.own s x hx).lt k e.symm; omega), Below.heap_alloc _ _ _ hk2]
  have hcell : ∀ s' x', x' < n → w2.cell? ⟨gbf g0 g1 s', x', none⟩ = some (V s' x') ∧ w2.frozen? ⟨gbf g0 g1 s', x', none⟩ = false := fun s' x' hx' =>
    ⟨(World.cell?_of_block (hold _ (hgl s'))).trans (h.cell s' x' hx').1, (World.frozen?_of_block (hold _ (hgl s'))).trans (h.cell s' x' hx').2⟩
  have hsz : wr.heap.size ≤ w2.heap.size := by have := hgr.size; simp at this; omega
  have hgs : (wr.setCell ⟨0, 0, none⟩ (.bool true)).heap.size = wr.heap.size := World.size_setCell _ _ _
  have hset : w2.grownBy (w2.setCell ⟨gbf g0 g1 s, x, none⟩ (.slice (some ⟨g, 0, none⟩) len cap)) (some (gbf g0 g1 s)) := ⟨rfl, rfl, rfl, by simp [World.setCell], fun _ _ hk => Below.heap_setCell _ _ _ _ (fun e => hk (by rw [e]))⟩
  have hgW : W.heap.size ≤ g := (hown.lt g rfl).1
  have hother : ∀ s' x', x' < n → ¬ (s' = s ∧ x' = x) → (V s' x').ownBlock = none ∨ (V s' x').ownBlock ≠ some g := by
    intro s' x' hx' hn'
    rcases hloc with hl | hl
    · rw [← hl]
      exact h.apart s' x' s x hx' hx hn'
    · right
      intro e
      have := ((h.own s' x' hx').lt g e).2
      omega
  refine ⟨hcell, ⟨fun s' x' hx' => ?_, fun s' x' hx' => ?_, fun s1 x1 s2 x2 hx1 hx2 hn' => ?_, hgr.os.trans h.os, hgr.tape.trans h.tape, hgr.output.trans h.output, by rw [World.size_setCell]; exact Nat.le_trans h.size hsz, fun k hk k1 k2 k3 => ?_⟩, fun k hk hkn => ?_⟩
  · rw [World.frozen?_setCell]
    refine ⟨?_, (hcell s' x' hx').2⟩
    unfold upd
    by_cases e : s' = s ∧ x' = x
    · obtain ⟨rfl, rfl⟩ := e
      rw [if_pos ⟨rfl, rfl⟩]
      exact World.cell?_setCell_same _ _ _ (hcell s' x' hx').1
    · rw [if_neg e, World.cell?_setCell_other _ _ _ _ (fun e' => ?_)]
      · exact (hcell s' x' hx').1
      · have e1 : gbf g0 g1 s = gbf g0 g1 s' := congrArg Addr.block e'
        have e2 : x = x' := congrArg Addr.off e'
        by_cases es : s' = s
        · exact e ⟨es, e2.symm⟩
        · exact hinj s' es e1.symm
  · unfold upd
    by_cases e : s' = s ∧ x' = x
    · obtain ⟨rfl, rfl⟩ := e
      rw [if_pos ⟨rfl, rfl⟩, if_pos ⟨rfl, rfl⟩, List.length_append, List.length_singleton, ← hlen, List.map_append]
      refine hown.kept hset (.inr ?_)
      intro e'
      have e2 : g = gbf g0 g1 s' := by simpa [Value.ownBlock] using e'
      have := hgl s'
      omega
    · rw [if_neg e, if_neg e]
      have h1' := ((h.own s' x' hx').alloc o).kept hgr (h.apart s' x' s x hx' hx e)
      refine h1'.kept hset (.inr ?_)
      intro e'
      have := (h.own s' x' hx').lt _ e'
      have := hgl s
      omega
  · unfold upd
    by_cases e1 : s1 = s ∧ x1 = x
    · rw [if_pos e1]
      have e2 : ¬ (s2 = s ∧ x2 = x) := fun e2 => hn' ⟨e1.1.trans e2.1.symm, e1.2.trans e2.2.symm⟩
      rw [if_neg e2]
      right
      intro e'
      rcases hother s2 x2 hx2 e2 with h' | h'
      · rw [h'] at e'
        simp [Value.ownBlock] at e'
      · exact h' (by rw [← e']; rfl)
    · rw [if_neg e1]
      by_cases e2 : s2 = s ∧ x2 = x
      · rw [if_pos e2]
        exact hother s1 x1 hx1 e1
      · rw [if_neg e2]
        exact h.apart s1 x1 s2 x2 hx1 hx2 hn'
  · rw [Below.heap_setCell _ _ _ _ (by cases s <;> simpa [gbf]), hold k hk]
    exact h.block k hk k1 k2 k3
  · rw [Below.heap_setCell _ _ _ _ (by simpa using hkn), hold k hk]

theorem GM.read {W wr : World} {sb g0 g1 n : Nat} {V : Bool → Nat → Value} {X : Bool → Nat → List Int} (h : GM W wr sb g0 g1 n V X) (s : Bool) {x : Nat} (hx : x < n) :
    ∃ a c, wr.cell? ⟨gbf g0 g1 s, x, none⟩ = some (.slice a (X s x).length c) ∧ RdL wr.heap.size wr a (X s x) := by
  have ho := h.own s x hx
  have hc := (h.cell s x hx).1
  rcases ho.2 with ⟨hv, h0⟩ | ⟨g, cap, cur, hv, _, hg, _⟩
  · rw [hv] at hc
    exact ⟨none, 0, by rw [h0]; exact hc, fun hp => by omega⟩
  · rw [hv] at hc ho
    refine ⟨_, _, hc, fun hp => ⟨g, 0, rfl, (ho.lt g rfl).2, fun i hi => ?_⟩⟩
    rw [Nat.zero_add, ho.cellAt i (by omega)]
    simp [hi]

/-- What byMember and byAt hold when the logs below k, and the first a of log k, are done. -/
def XX (Ls : Nat → List Int) (k a : Nat) : Bool → Nat → List Int
  | false, x => (Dp.Fka Ls k a (x : Int)).map Prod.fst
  | true, x => (Dp.Fka Ls k a (x : Int)).map Prod.snd
theorem XX_start (Ls : Nat → List Int) (s : Bool) (x : Nat) : [] = XX Ls 0 0 s x := by cases s <;> simp [XX, Dp.Fka, Dp.Fk]
theorem XX_old (Ls : Nat → List Int) {k a y : Nat} (h : a < (Ls k).length) (hy : (Ls k).getD a 0 = (y : Int)) (hm : (y : Int) ∈ (Ls k).take a) (s : Bool) (x : Nat) : XX Ls k a s x = XX Ls k (a + 1) s x := by
  cases s <;> simp only [XX] <;> rw [Dp.Fka_old Ls k a h (by rw [hy]; exact hm)]
theorem XX_end (Ls : Nat → List Int) {k a : Nat} (h : (Ls k).length ≤ a) (s : Bool) (x : Nat) : XX Ls k a s x = XX Ls (k + 1) 0 s x := by
  cases s <;> simp only [XX] <;> rw [Dp.Fka_end Ls k a h, Dp.Fka_zero]
theorem XX_new (Ls : Nat → List Int) {k a y : Nat} (h : a < (Ls k).length) (hy : (Ls k).getD a 0 = (y : Int)) (hm : (y : Int) ∉ (Ls k).take a) (s : Bool) (x : Nat) :
    upd (upd (XX Ls k a) false y (XX Ls k a false y ++ [(k : Int)])) true y (upd (XX Ls k a) false y (XX Ls k a false y ++ [(k : Int)]) true y ++ [(a : Int)]) s x = XX Ls k (a + 1) s x := by
  have hn := Dp.Fka_new Ls k a h (by rw [hy]; exact hm)
  rw [hy] at hn
  by_cases e : x = y
  · subst e
    cases s <;> simp [upd, XX, hn]
  · have ho := Dp.Fka_other Ls k a h (x : Int) (by rw [hy]; omega)
    cases s <;> simp [upd, XX, e, ho]
theorem XX_len (Ls : Nat → List Int) (k a : Nat) (s : Bool) (x : Nat) : (XX Ls k a s x).length = (Dp.Fka Ls k a (x : Int)).length := by cases s <;> simp [XX]
theorem XX_bound (Ls : Nat → List Int) (k a : Nat) (s : Bool) (x : Nat) : (XX Ls k a s x).length ≤ k + 1 := by
  rw [XX_len]
  have h1 := Dp.Fka_le Ls (x : Int) k a (k + 1) (by omega)
  have h2 := Dp.Fk_bound Ls (x : Int) (k + 1)
  omega
theorem XX_get (Ls : Nat → List Int) (K x j : Nat) : (XX Ls K 0 false x).getD j 0 = ((Dp.Fk Ls K (x : Int)).getD j (0, 0)).1 ∧ (XX Ls K 0 true x).getD j 0 = ((Dp.Fk Ls K (x : Int)).getD j (0, 0)).2 := by
  simp only [XX, Dp.Fka_zero, List.getD_eq_getElem?_getD, List.getElem?_map]
  cases (Dp.Fk Ls K (x : Int))[j]? <;> exact ⟨rfl, rfl⟩

/-- seenBy: the last member that has delivered the message. -/
def SeenI (n : Nat) (Ls : Nat → List Int) (k a : Nat) (sf : Nat → Int) : Prop := ∀ y : Nat, y < n → ((y : Int) ∈ (Ls k).take a → sf y = k) ∧ ((y : Int) ∉ (Ls k).take a → sf y < k)
theorem SeenI.old {n : Nat} {Ls : Nat → List Int} {k a y : Nat} {sf : Nat → Int} (h : SeenI n Ls k a sf) (hl : a < (Ls k).length) (hy : (Ls k).getD a 0 = (y : Int)) (hm : (y : Int) ∈ (Ls k).take a) : SeenI n Ls k (a + 1) sf := by
  intro z hz
  have e : (z : Int) ∈ (Ls k).take (a + 1) ↔ (z : Int) ∈ (Ls k).take a := by
    rw [Dp.mem_take_succ hl, hy]
    constructor
    · rintro (h | h)
      · exact h
      · rw [h]; exact hm
    · exact .inl
  rw [e]
  exact h z hz
theorem SeenI.new {n : Nat} {Ls : Nat → List Int} {k a y : Nat} {sf : Nat → Int} (h : SeenI n Ls k a sf) (hl : a < (Ls k).length) (hy : (Ls k).getD a 0 = (y : Int)) : SeenI n Ls k (a + 1) (fun x => if x = y then (k : Int) else sf x) := by
  intro z hz
  rw [Dp.mem_take_succ hl, hy]
  by_cases e : z = y
  · subst e
    simp
  · have e2 : ¬ (z : Int) = (y : Int) := by omega
    simp only [if_neg e, e2, or_false]
    exact h z hz
theorem SeenI.fin {n : Nat} {Ls : Nat → List Int} {k a : Nat} {sf : Nat → Int} (h : SeenI n Ls k a sf) : SeenI n Ls (k + 1) 0 sf := by
  intro z hz
  refine ⟨fun hm => by simp at hm, fun _ => ?_⟩
  by_cases e : (z : Int) ∈ (Ls k).take a
  · have := (h z hz).1 e
    omega
  · have := (h z hz).2 e
    omega

end Go.Proofs.Qxb6601966a
