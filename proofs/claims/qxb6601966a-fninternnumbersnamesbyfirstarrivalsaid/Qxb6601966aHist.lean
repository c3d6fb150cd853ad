/-
  A History in memory: its block, eight rows of the call's own that lie apart, two maps.
-/
import Derived.Test.Qxb6601966aLaws
import Derived.Test.Qxb6601966aProg
import Derived.Maps.OwnSet
import Derived.WalkSpells
namespace Go.Proofs.Qxb6601966a
open Go Go.RowKit Go.Maps

/-- A row that is owned: its elements' type, their cells, the slice's value, its length, its cells. -/
structure RowI where
  e : TypeId
  size : Nat
  v : Value
  n : Nat
  xs : List Value

/-- All the rows are owned, and no two lie in one block. -/
def OwnAll (w : World) (base : Nat) (rs : List RowI) : Prop :=
  (∀ r ∈ rs, w.ownsRow base r.e r.size r.v r.n r.xs) ∧ rs.Pairwise (fun r r' => r.v.ownBlock = none ∨ r.v.ownBlock ≠ r'.v.ownBlock)

theorem OwnAll.kept {w w' : World} {base : Nat} {rs : List RowI} {row : Option Nat} (h : OwnAll w base rs) (hg : w.grownBy w' row) (hne : ∀ r ∈ rs, r.v.ownBlock = none ∨ r.v.ownBlock ≠ row) : OwnAll w' base rs :=
  ⟨fun r hr => (h.1 r hr).kept hg (hne r hr), h.2⟩

theorem OwnAll.append {w w2 : World} {base g n' : Nat} {pre post : List RowI} {r : RowI} {o : Obj} {v' : Value} {xs' : List Value} (h : OwnAll w base (pre ++ r :: post)) (hv : v'.ownBlock = some g)
    (hown : w2.ownsRow base r.e r.size v' n' xs') (hgr : (w.alloc o).grownBy w2 r.v.ownBlock) (hloc : r.v.ownBlock = some g ∨ g = w.heap.size + 1) : OwnAll w2 base (pre ++ ⟨r.e, r.size, v', n', xs'⟩ :: post) := by
  obtain ⟨h1, h2⟩ := h
  have hp := List.pairwise_append.1 h2
  obtain ⟨hp1, hp2, hp3⟩ := hp
  obtain ⟨hp4, hp5⟩ := List.pairwise_cons.1 hp2
  have hpre : ∀ q ∈ pre, q.v.ownBlock = none ∨ q.v.ownBlock ≠ r.v.ownBlock := fun q hq => hp3 q hq r (by simp)
  have hpost : ∀ q ∈ post, q.v.ownBlock = none ∨ q.v.ownBlock ≠ r.v.ownBlock := fun q hq => by
    rcases hp4 q hq with h | h
    · cases hqb : q.v.ownBlock with
      | none => exact .inl rfl
      | some x => rw [h]; exact .inr (by simp)
    · exact .inr (fun e => h e.symm)
  have hother : ∀ q, q ∈ pre ++ r :: post → (q.v.ownBlock = none ∨ q.v.ownBlock ≠ r.v.ownBlock) → q.v.ownBlock ≠ some g := by
    intro q hq hne e
    rcases hloc with hl | hl
    · rcases hne with h | h
      · rw [h] at e; cases e
      · exact h (e.trans hl.symm)
    · have := ((h1 q hq).lt g e).2
      omega
  refine ⟨fun q hq => ?_, ?_⟩
  · rcases List.mem_append.1 hq with hq | hq
    · exact ((h1 q (by simp [hq])).alloc o).kept hgr (hpre q hq)
    · rcases List.mem_cons.1 hq with rfl | hq
      · exact hown
      · exact ((h1 q (by simp [hq])).alloc o).kept hgr (hpost q hq)
  · refine List.pairwise_append.2 ⟨hp1, List.pairwise_cons.2 ⟨fun q hq => ?_, hp5⟩, fun q hq q' hq' => ?_⟩
    · right
      show v'.ownBlock ≠ q.v.ownBlock
      rw [hv]
      exact fun e => hother q (by simp [hq]) (hpost q hq) e.symm
    · rcases List.mem_cons.1 hq' with rfl | hq'
      · right
        show q.v.ownBlock ≠ v'.ownBlock
        rw [hv]
        exact hother q (by simp [hq]) (hpre q hq)
      · exact hp3 q hq q' (by simp [hq'])

/-- A History: its block, its rows, its map index (in block b) and a second map (in block f). -/
structure HSt (w : World) (base hb b f : Nat) (vs : List Value) (rs : List RowI) (D E : DataW Unit) : Prop where
  blk : w.heap[hb]? = some (.cells vs.toArray 71 (0, 0))
  rows : OwnAll w base rs
  tys : ∀ r ∈ rs, r.e ≠ 71
  map : w.ownsMap Try.prog 9 (plainElem Try.prog 3) b (Maps.size D) D
  map2 : w.ownsMap Try.prog 9 (plainElem Try.prog 3) f (Maps.size E) E
  ne : b ≠ f
  hb0 : base ≤ hb
  b0 : base ≤ b
  f0 : base ≤ f

variable {w : World} {base hb b f : Nat} {vs : List Value} {rs : List RowI} {D E : DataW Unit}

theorem HSt.cell (h : HSt w base hb b f vs rs D E) {j : Nat} {x : Value} (hj : vs[j]? = some x) : w.cell? ⟨hb, j, none⟩ = some x ∧ w.frozen? ⟨hb, j, none⟩ = false := by
  have hb := h.blk
  simp [World.cell?, World.frozen?, hb, hj]

theorem HSt.base_le (h : HSt w base hb b f vs rs D E) : base ≤ w.heap.size := by
  have := lt_of_block h.blk
  have := h.hb0
  omega

theorem HSt.row_ne (h : HSt w base hb b f vs rs D E) {r : RowI} (hr : r ∈ rs) : r.v.ownBlock ≠ some hb := by
  have h1 := h.rows.1 r hr
  have h2 := h.tys r hr
  intro e
  rcases h1.2 with ⟨h', _⟩ | ⟨g, cap, cur, h', _, hg, _⟩
  · rw [h'] at e; simp [Value.ownBlock] at e
  · rw [h'] at e
    simp [Value.ownBlock] at e
    subst e
    rw [h.blk] at hg
    simp at hg
    exact h2 hg.2.symm

theorem cells_not_map {b n : Nat} {D : DataW Unit} {g : Nat} {cs : Array Value} {t : TypeId} {z : Nat × Nat} (h : w.ownsMap Try.prog 9 (plainElem Try.prog 3) b n D) (hb : w.heap[g]? = some (.cells cs t z)) : b ≠ g := by
  obtain ⟨es, clock, h1, _⟩ := h
  intro e
  subst e
  rw [h1] at hb
  cases hb

theorem row_not_map {b n k : Nat} {D : DataW Unit} {e : TypeId} {size : Nat} {v : Value} {xs : List Value} (h : w.ownsMap Try.prog 9 (plainElem Try.prog 3) b n D) (hr : w.ownsRow base e size v k xs) : v.ownBlock ≠ some b := by
  rcases hr.2 with ⟨rfl, _⟩ | ⟨g, cap, cur, rfl, _, hg, _⟩
  · simp [Value.ownBlock]
  · intro e
    simp [Value.ownBlock] at e
    exact cells_not_map h hg e.symm

/-- A cell of the History is written. -/
theorem HSt.setField (h : HSt w base hb b f vs rs D E) (k : Nat) (u : Value) : HSt (w.setCell ⟨hb, k, none⟩ u) base hb b f (vs.set k u) rs D E := by
  have hg : w.grownBy (w.setCell ⟨hb, k, none⟩ u) (some hb) := ⟨rfl, rfl, rfl, by simp [World.setCell], fun _ _ hk => RowKit.Below.heap_setCell _ _ _ _ (fun e => hk (by rw [e]))⟩
  refine ⟨?_, h.rows.kept hg (fun r hr => .inr (h.row_ne hr)), h.tys, h.map.setCell (cells_not_map h.map h.blk) u, h.map2.setCell (cells_not_map h.map2 h.blk) u, h.ne, h.hb0, h.b0, h.f0⟩
  rw [heap_setCell_same w hb k _ 71 _ h.blk]
  simp

/-- An append onto one of the rows, and the store of its value into the History. -/
theorem HSt.step {w2 : World} {pre post : List RowI} {r : RowI} (h : HSt w base hb b f vs (pre ++ r :: post) D E) (k : Nat) {o : Obj} {v' : Value} {g n' : Nat} {xs' : List Value} (hv : v'.ownBlock = some g)
    (hown : w2.ownsRow base r.e r.size v' n' xs') (hgr : (w.alloc o).grownBy w2 r.v.ownBlock) (hloc : r.v.ownBlock = some g ∨ g = w.heap.size + 1) :
    (∀ j x, vs[j]? = some x → w2.cell? ⟨hb, j, none⟩ = some x ∧ w2.frozen? ⟨hb, j, none⟩ = false) ∧
    HSt (w2.setCell ⟨hb, k, none⟩ v') base hb b f (vs.set k v') (pre ++ ⟨r.e, r.size, v', n', xs'⟩ :: post) D E ∧ Below base w (w2.setCell ⟨hb, k, none⟩ v') := by
  have hlt := lt_of_block h.blk
  have hrr : r ∈ pre ++ r :: post := by simp
  have hne := h.row_ne hrr
  have hrow := h.rows.1 r hrr
  have hm1 := row_not_map h.map hrow
  have hm2 := row_not_map h.map2 hrow
  have hblk : w2.heap[hb]? = some (.cells vs.toArray 71 (0, 0)) := by
    rw [hgr.block hb (by simp; omega) (fun e => hne e.symm), Below.heap_alloc _ _ _ hlt]
    exact h.blk
  have h2 : HSt w2 base hb b f vs (pre ++ ⟨r.e, r.size, v', n', xs'⟩ :: post) D E := by
    refine ⟨hblk, h.rows.append hv hown hgr hloc, fun q hq => ?_, (h.map.alloc o).kept hgr (fun e => hm1 e.symm), (h.map2.alloc o).kept hgr (fun e => hm2 e.symm), h.ne, h.hb0, h.b0, h.f0⟩
    rcases List.mem_append.1 hq with hq | hq
    · exact h.tys q (by simp [hq])
    · rcases List.mem_cons.1 hq with rfl | hq
      · exact h.tys r hrr
      · exact h.tys q (by simp [hq])
  refine ⟨fun j x hj => h2.cell hj, h2.setField k v', ?_⟩
  have hbs := h.base_le
  exact ((Below.alloc (Below.refl _ _) hbs _).grown hgr (by simp; omega) (fun k hk => (hrow.lt k hk).1)).setCell h.hb0 _

/-- The cells of a new block. -/
theorem cells_new (w : World) (cs : List Value) (t : TypeId) : ∀ j u, cs[j]? = some u → (w.alloc (.cells cs.toArray t)).cell? ((⟨w.heap.size, 0, none⟩ : Addr).add j) = some u := by
  intro j u hj
  rw [Addr.add_lit, Nat.zero_add, cell_of_row _ w.heap.size j cs.toArray t (0, 0) (heap_alloc_new w _)]
  simpa using hj

end Go.Proofs.Qxb6601966a
