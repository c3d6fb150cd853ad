/-
  (*senderMessages).add: what its memory is told by, and the walk where the number lies within byNumber.
-/
import Derived.Test.Qxb6601966aLook
import Derived.Maps.AppendAt
namespace Go.Proofs.Qxb6601966a
open Go Go.RowKit Go.Maps

/-- The map value m reads as D; its block, if any, is one from 'base' on. -/
def IsMb (base : Nat) (w : World) (m : Value) (D : DataW Unit) : Prop :=
  (m = .map none ∧ D = .map []) ∨ ∃ b, m = .map (some b) ∧ base ≤ b ∧ w.ownsMap Try.prog 24 (plainElem Try.prog 3) b (Maps.size D) D

theorem IsMb.isM {base : Nat} {w : World} {m : Value} {D : DataW Unit} (h : IsMb base w m D) : IsM w m D := by
  rcases h with h | ⟨b, rfl, _, ho⟩
  · exact .inl h
  · exact .inr ⟨b, _, rfl, ho⟩

theorem ownsMap_tight {P : Program} {k : TypeId} {R : Value → Option (DataW Unit × List MemPlace)} {w : World} {b n : Nat} {D : DataW Unit} (h : w.ownsMap P k R b n D) : w.ownsMap P k R b (Maps.size D) D := by
  obtain ⟨es, clock, h1, h2, h3, rfl⟩ := h
  exact ⟨es, clock, h1, h2, by simp [Maps.size, length_sorted], rfl⟩

/-- THE TABLE s IN MEMORY: the struct in block sb, its slice's row, its map. -/
structure Tbl (w : World) (base sb : Nat) (a : Option Addr) (c : Nat) (m : Value) (N : Int) (s : List Int × DataW Unit) : Prop where
  blk : w.heap[sb]? = some (.cells #[.slice a s.1.length c, m, .int .i64 N] 47 (0, 0))
  row : w.ownsRow base 3 1 (.slice a s.1.length c) s.1.length (s.1.map (Value.int .i64))
  map : IsMb base w m s.2

theorem three_cells {w : World} {sb : Nat} {x y z : Value} {t : TypeId} (h : w.heap[sb]? = some (.cells #[x, y, z] t (0, 0))) :
    w.cell? ⟨sb, 0, none⟩ = some x ∧ w.cell? ⟨sb, 1, none⟩ = some y ∧ w.cell? ⟨sb, 2, none⟩ = some z ∧ w.frozen? ⟨sb, 0, none⟩ = false ∧ w.frozen? ⟨sb, 1, none⟩ = false ∧ w.frozen? ⟨sb, 2, none⟩ = false := by
  simp [World.cell?, World.frozen?, h]

/-- A row of numbers and the struct's block are two. -/
theorem row_ne_blk {w : World} {base sb : Nat} {v : Value} {n : Nat} {xs : List Value} {cs : Array Value} (h : w.ownsRow base 3 1 v n xs) (hb : w.heap[sb]? = some (.cells cs 47 (0, 0))) : v.ownBlock ≠ some sb := by
  rcases h.2 with ⟨rfl, _⟩ | ⟨g, cap, cur, rfl, _, hg, _⟩
  · simp [Value.ownBlock]
  · intro e
    simp [Value.ownBlock] at e
    subst e
    rw [hg] at hb
    simp at hb

theorem map_ne_blk {w : World} {b g n : Nat} {D : DataW Unit} {cs : Array Value} {t : TypeId} {z : Nat × Nat} (h : w.ownsMap Try.prog 24 (plainElem Try.prog 3) b n D) (hb : w.heap[g]? = some (.cells cs t z)) : b ≠ g := by
  obtain ⟨es, clock, h1, _⟩ := h
  intro e
  subst e
  rw [h1] at hb
  cases hb

theorem map_ne_row {w : World} {base b n k : Nat} {D : DataW Unit} {v : Value} {xs : List Value} (h : w.ownsMap Try.prog 24 (plainElem Try.prog 3) b n D) (hr : w.ownsRow base 3 1 v k xs) : v.ownBlock ≠ some b := by
  rcases hr.2 with ⟨rfl, _⟩ | ⟨g, cap, cur, rfl, _, hg, _⟩
  · simp [Value.ownBlock]
  · intro e
    simp [Value.ownBlock] at e
    exact map_ne_blk h hg e.symm

/-- The map stays what it is while a row or the struct is written. -/
theorem IsMb.kept {base : Nat} {w w' : World} {m : Value} {D : DataW Unit} {row : Option Nat} (h : IsMb base w m D) (hg : w.grownBy w' row) (hne : ∀ b, row = some b → ∃ cs t z, w.heap[b]? = some (.cells cs t z)) : IsMb base w' m D := by
  rcases h with h | ⟨b, rfl, hb, ho⟩
  · exact .inl h
  · refine .inr ⟨b, rfl, hb, ho.kept hg (fun e => ?_)⟩
    obtain ⟨cs, t, z, hc⟩ := hne b e.symm
    exact map_ne_blk ho hc rfl

theorem grown_setCell {w : World} (a : Addr) (u : Value) : w.grownBy (w.setCell a u) (some a.block) :=
  ⟨rfl, rfl, rfl, by simp [World.setCell], fun _ _ hk => RowKit.Below.heap_setCell _ _ _ _ (fun e => hk (by rw [e]))⟩

/-- A field of the struct is written. -/
theorem Tbl.setN {w : World} {base sb : Nat} {a : Option Addr} {c : Nat} {m : Value} {N : Int} {s : List Int × DataW Unit} (h : Tbl w base sb a c m N s) (N' : Int) : Tbl (w.setCell ⟨sb, 2, none⟩ (.int .i64 N')) base sb a c m N' s := by
  refine ⟨?_, ownsRow_setCell_other h.row (row_ne_blk h.row h.blk) _, h.map.kept (grown_setCell _ _) (fun b e => ?_)⟩
  · rw [heap_setCell_same w sb 2 _ 47 _ h.blk]
    simp
  · simp at e
    subst e
    exact ⟨_, _, _, h.blk⟩

set_option maxHeartbeats 400000 in
theorem add_in (sb g L c k named : Nat) (x : Value) (i : Int) (w : World) (c0 : w.cell? ⟨sb, 0, none⟩ = some (.slice (some ⟨g, 0, none⟩) L c)) (c2 : w.cell? ⟨sb, 2, none⟩ = some (.int .i64 (named : Int)))
    (f2 : w.frozen? ⟨sb, 2, none⟩ = false) (hx : w.cell? ⟨g, k, none⟩ = some x) (hf : w.frozen? ⟨g, k, none⟩ = false) (hne : g ≠ sb) (hk : k < L) (hl : L ≤ 1000000) (hN : named ≤ 1000000) :
    Calls Try.prog 33 #[.pointer (some ⟨sb, 0, none⟩), .int .u64 ((k : Int) + 1), .int .i64 i] w fun e w' => e = .returned (.tuple #[]) ∧
      w' = (w.setCell ⟨sb, 2, none⟩ (.int .i64 ((named : Int) + 1))).setCell ⟨g, k, none⟩ (.int .i64 i) := by
  go_enter Try.func33, Try.ntmps33
  go_wp2
  refine bodyPost_ret (results_none rfl _ _ _) rfl ?_
  exact ⟨rfl, rfl⟩

/-- A store into the row. -/
theorem Tbl.setRow {w : World} {base sb g : Nat} {c : Nat} {m : Value} {N : Int} {s : List Int × DataW Unit} (h : Tbl w base sb (some ⟨g, 0, none⟩) c m N s) (k : Nat) (i : Int) :
    Tbl (w.setCell ⟨g, k, none⟩ (.int .i64 i)) base sb (some ⟨g, 0, none⟩) c m N (s.1.set k i, s.2) := by
  obtain ⟨h1, h2⟩ := h.row.stored k (.int .i64 i)
  have hne : sb ≠ g := fun e => row_ne_blk h.row h.blk (by simp [Value.ownBlock, e])
  refine ⟨?_, ?_, h.map.kept h2 (fun b e => ?_)⟩
  · rw [h2.block sb (lt_of_block h.blk) (by simpa using hne)]
    simpa using h.blk
  · simpa [List.map_set] using h1
  · cases e
    rcases h.row.2 with ⟨h', _⟩ | ⟨g', cap, cur, h', _, hg, _⟩
    · simp at h'
    · simp at h'
      obtain ⟨rfl, _⟩ := h'
      exact ⟨_, _, _, hg⟩

theorem add_in_tbl (base sb : Nat) (a : Option Addr) (c : Nat) (m : Value) (named : Nat) (n i : Int) (s : List Int × DataW Unit) (w : World) (hT : Tbl w base sb a c m named s) (h1 : 1 ≤ n) (hn : n ≤ s.1.length) (hl : s.1.length ≤ 1000000) (hN : named ≤ 1000000) (hsb : base ≤ sb) :
    Calls Try.prog 33 #[.pointer (some ⟨sb, 0, none⟩), .int .u64 n, .int .i64 i] w fun e w' => e = .returned (.tuple #[]) ∧
      ∃ a' c' m', Tbl w' base sb a' c' m' ((named : Int) + 1) (Tab.add s named n i) ∧ Below base w w' := by
  obtain ⟨k, rfl⟩ : ∃ k : Nat, n = (k : Int) + 1 := ⟨(n - 1).toNat, by omega⟩
  obtain ⟨c0, c1, c2, f0, f1, f2⟩ := three_cells hT.blk
  rcases hT.row.2 with ⟨h, h'⟩ | ⟨g, cap, cur, h, hbg, hg, _⟩
  · omega
  · simp only [Value.slice.injEq, true_and] at h
    obtain ⟨rfl, rfl⟩ := h
    have hne : g ≠ sb := fun e => row_ne_blk hT.row hT.blk (by simp [Value.ownBlock, e])
    obtain ⟨x, hx⟩ : ∃ x, w.cell? ⟨g, k, none⟩ = some x := by
      rw [hT.row.cellAt k (by omega)]
      simp [show k < s.1.length by omega]
    refine (add_in sb g s.1.length c k named x i w c0 c2 f2 hx (hT.row.frozenAt k) hne (by omega) hl hN).mono ?_
    rintro e w' ⟨rfl, rfl⟩
    have e1 : Tab.add s named ((k : Int) + 1) i = (s.1.set k i, s.2) := by
      unfold Tab.add
      rw [if_pos hn]
      have e2 : ((k : Int) + 1 - 1).toNat = k := by omega
      rw [e2]
    rw [e1]
    exact ⟨rfl, _, _, _, (hT.setN _).setRow k i, ((Below.refl _ _).setCell hsb _).setCell hbg _⟩

end Go.Proofs.Qxb6601966a
