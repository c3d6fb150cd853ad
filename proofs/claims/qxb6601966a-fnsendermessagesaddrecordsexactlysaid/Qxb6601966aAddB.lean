/-
  (*senderMessages).add: the walk where the number goes into beyond.
-/
import Derived.Test.Qxb6601966aAddA
namespace Go.Proofs.Qxb6601966a
open Go Go.RowKit Go.Maps

set_option maxHeartbeats 400000 in
theorem add_put (sb L c named b : Nat) (a : Option Addr) (n i : Int) (D : DataW Unit) (w : World) (c0 : w.cell? ⟨sb, 0, none⟩ = some (.slice a L c)) (c1 : w.cell? ⟨sb, 1, none⟩ = some (.map (some b))) (c2 : w.cell? ⟨sb, 2, none⟩ = some (.int .i64 (named : Int)))
    (f2 : w.frozen? ⟨sb, 2, none⟩ = false) (hown : (w.setCell ⟨sb, 2, none⟩ (.int .i64 ((named : Int) + 1))).ownsMap Try.prog 24 (plainElem Try.prog 3) b (Maps.size D) D) (hsz : Maps.size D ≤ 1000000)
    (hi : (Lit.int .i64 i).wf = true) (hl : L ≤ 1000000) (hN : named ≤ 1000000) (h1 : (L : Int) < n) (h2 : 2 * ((named : Int) + 1) < n) (h3 : n < 18446744073709551616) :
    Calls Try.prog 33 #[.pointer (some ⟨sb, 0, none⟩), .int .u64 n, .int .i64 i] w fun e w' => e = .returned (.tuple #[]) ∧
      w'.ownsMap Try.prog 24 (plainElem Try.prog 3) b (Maps.size D + 1) (D.put (Tab.kk n) (Tab.vv i)) ∧ (w.setCell ⟨sb, 2, none⟩ (.int .i64 ((named : Int) + 1))).grownBy w' (some b) := by
  have hkey := key24 (n := n) (by omega) h3
  have q26 : ∀ (w : World) (r : Option Nat), (binOp .eql 26 (.map r) (.map none)).run Try.prog w = .ok (.bool r.isNone) w := fun w r => run_eql_map_nil w _ _ _ r Try.underlying26
  go_enter Try.func33, Try.ntmps33
  go_wp2_with (at_mapUpdate; refine wpList_mapUpdate_own _ rfl _ _ _ 26 rfl 24 3 law24 Try.underlying26 (plainElem (H := Unit) Try.prog 3) b (Maps.size D) D rfl hown (by unfold maxLen; omega) _ _ _ rfl rfl hkey _ [] (plainElem_int Try.underlying3 hi) ?_; intro w1 hown1 hgrow1)
  refine bodyPost_ret (results_none rfl _ _ _) rfl ?_
  exact ⟨rfl, hown1, hgrow1⟩

set_option maxHeartbeats 400000 in
theorem add_first (sb L c named : Nat) (a : Option Addr) (n i : Int) (w : World) (c0 : w.cell? ⟨sb, 0, none⟩ = some (.slice a L c)) (c1 : w.cell? ⟨sb, 1, none⟩ = some (.map none)) (c2 : w.cell? ⟨sb, 2, none⟩ = some (.int .i64 (named : Int)))
    (f1 : w.frozen? ⟨sb, 1, none⟩ = false) (f2 : w.frozen? ⟨sb, 2, none⟩ = false) (hsb : sb < w.heap.size)
    (hi : (Lit.int .i64 i).wf = true) (hl : L ≤ 1000000) (hN : named ≤ 1000000) (h1 : (L : Int) < n) (h2 : 2 * ((named : Int) + 1) < n) (h3 : n < 18446744073709551616) :
    Calls Try.prog 33 #[.pointer (some ⟨sb, 0, none⟩), .int .u64 n, .int .i64 i] w fun e w' => e = .returned (.tuple #[]) ∧
      w'.ownsMap Try.prog 24 (plainElem Try.prog 3) w.heap.size 1 ((DataW.map []).put (Tab.kk n) (Tab.vv i)) ∧
      (((w.setCell ⟨sb, 2, none⟩ (.int .i64 ((named : Int) + 1))).setCell ⟨sb, 1, none⟩ (.map (some w.heap.size))).alloc (.map #[] 0)).grownBy w' (some w.heap.size) := by
  have hkey := key24 (n := n) (by omega) h3
  have hmm := @run_makeMap Try.prog
  have q26 : ∀ (w : World) (r : Option Nat), (binOp .eql 26 (.map r) (.map none)).run Try.prog w = .ok (.bool r.isNone) w := fun w r => run_eql_map_nil w _ _ _ r Try.underlying26
  go_enter Try.func33, Try.ntmps33
  go_wp2_with (at_mapUpdate; refine wpList_mapUpdate_own _ rfl _ _ _ 26 rfl 24 3 law24 Try.underlying26 (plainElem (H := Unit) Try.prog 3) w.heap.size 0 (.map []) rfl ?ho (by unfold maxLen; omega) _ _ _ rfl rfl hkey _ [] (plainElem_int Try.underlying3 hi) ?_)
  case ho =>
    have h := World.ownsMap_made ((w.setCell ⟨sb, 2, none⟩ (.int .i64 ((named : Int) + 1))).setCell ⟨sb, 1, none⟩ (.map (some w.heap.size))) Try.prog 24 (plainElem (H := Unit) Try.prog 3)
    simpa using h
  intro w1 hown1 hgrow1
  go_wp2
  refine bodyPost_ret (results_none rfl _ _ _) rfl ?_
  exact ⟨rfl, hown1, hgrow1⟩

theorem Tbl.setM {w : World} {base sb : Nat} {a : Option Addr} {c : Nat} {m : Value} {N : Int} {s : List Int × DataW Unit} (h : Tbl w base sb a c m N s) (u : Value) :
    (w.setCell ⟨sb, 1, none⟩ u).heap[sb]? = some (.cells #[.slice a s.1.length c, u, .int .i64 N] 47 (0, 0)) ∧ (w.setCell ⟨sb, 1, none⟩ u).ownsRow base 3 1 (.slice a s.1.length c) s.1.length (s.1.map (Value.int .i64)) := by
  refine ⟨?_, ownsRow_setCell_other h.row (row_ne_blk h.row h.blk) _⟩
  rw [heap_setCell_same w sb 1 _ 47 _ h.blk]
  simp

theorem add_put_tbl (base sb : Nat) (a : Option Addr) (c : Nat) (m : Value) (named : Nat) (n i : Int) (s : List Int × DataW Unit) (w : World) (hT : Tbl w base sb a c m named s) (hn : (s.1.length : Int) < n) (h2 : 2 * ((named : Int) + 1) < n) (h3 : n < 18446744073709551616)
    (hi : (Lit.int .i64 i).wf = true) (hl : s.1.length ≤ 1000000) (hN : named ≤ 1000000) (hsz : Maps.size s.2 ≤ 1000000) (hsb : base ≤ sb) :
    Calls Try.prog 33 #[.pointer (some ⟨sb, 0, none⟩), .int .u64 n, .int .i64 i] w fun e w' => e = .returned (.tuple #[]) ∧
      ∃ a' c' m', Tbl w' base sb a' c' m' ((named : Int) + 1) (Tab.add s named n i) ∧ Below base w w' := by
  obtain ⟨c0, c1, c2, f0, f1, f2⟩ := three_cells hT.blk
  have hT1 := hT.setN ((named : Int) + 1)
  have e1 : Tab.add s named n i = (s.1, s.2.put (Tab.kk n) (Tab.vv i)) := by
    unfold Tab.add
    rw [if_neg (by omega), if_pos h2]
  have hlt := lt_of_block hT.blk
  rcases hT1.map with ⟨rfl, hD⟩ | ⟨b, rfl, hb, ho⟩
  · refine (add_first sb s.1.length c named a n i w c0 c1 c2 f1 f2 hlt hi hl hN hn h2 h3).mono ?_
    rintro e w' ⟨rfl, hown, hgr⟩
    refine ⟨rfl, a, c, .map (some w.heap.size), ?_⟩
    obtain ⟨k1, k2⟩ := hT1.setM (.map (some w.heap.size))
    rw [e1, hD]
    have hsz2 : ((w.setCell ⟨sb, 2, none⟩ (.int .i64 ((named : Int) + 1))).setCell ⟨sb, 1, none⟩ (.map (some w.heap.size))).heap.size = w.heap.size := by simp
    have hbl : Below base w ((w.setCell ⟨sb, 2, none⟩ (.int .i64 ((named : Int) + 1))).setCell ⟨sb, 1, none⟩ (.map (some w.heap.size))) := ((Below.refl _ _).setCell hsb _).setCell hsb _
    generalize (w.setCell ⟨sb, 2, none⟩ (.int .i64 ((named : Int) + 1))).setCell ⟨sb, 1, none⟩ (.map (some w.heap.size)) = W at *
    have hsz3 : (W.alloc (.map #[] 0)).heap.size = w.heap.size + 1 := by simp [hsz2]
    refine ⟨⟨?_, ?_, .inr ⟨_, rfl, by omega, ownsMap_tight hown⟩⟩, ?_⟩
    · rw [hgr.block sb (by omega) (by simp; omega), Below.heap_alloc _ _ _ (by omega)]
      exact k1
    · refine (k2.alloc _).kept hgr (.inr fun e => ?_)
      have := (k2.lt _ e).2
      omega
    · exact (hbl.alloc (by omega) _).grown hgr (by omega) (fun k hk => by cases hk; omega)
  · refine (add_put sb s.1.length c named b a n i s.2 w c0 c1 c2 f2 ho hsz hi hl hN hn h2 h3).mono ?_
    rintro e w' ⟨rfl, hown, hgr⟩
    refine ⟨rfl, a, c, .map (some b), ?_⟩
    rw [e1]
    have hbl : Below base w (w.setCell ⟨sb, 2, none⟩ (.int .i64 ((named : Int) + 1))) := (Below.refl _ _).setCell hsb _
    have hsz2 : (w.setCell ⟨sb, 2, none⟩ (.int .i64 ((named : Int) + 1))).heap.size = w.heap.size := by simp
    generalize (w.setCell ⟨sb, 2, none⟩ (.int .i64 ((named : Int) + 1))) = W at *
    have hbs := map_ne_blk ho hT1.blk
    refine ⟨⟨?_, hT1.row.kept hgr (.inr (map_ne_row ho hT1.row)), .inr ⟨b, rfl, hb, ownsMap_tight hown⟩⟩, ?_⟩
    · rw [hgr.block sb (by omega) (by simpa using hbs.symm)]
      exact hT1.blk
    · exact hbl.grown hgr (by omega) (fun k hk => by cases hk; omega)

end Go.Proofs.Qxb6601966a
