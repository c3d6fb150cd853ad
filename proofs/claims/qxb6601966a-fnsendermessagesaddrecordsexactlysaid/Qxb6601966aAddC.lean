/-
  (*senderMessages).add: the walk where byNumber grows to the number.
-/
import Derived.Test.Qxb6601966aAddB
import Derived.Test.Qxb6601966aLaws
namespace Go.Proofs.Qxb6601966a
open Go Go.RowKit Go.Maps

theorem info3 : (Try.prog.info? 3).map (fun i => (i.zero, i.size, i.bytes)) = some (some (.int .i64 0), 1, 8) := by kernel_rfl

/-- What an append and the store of its value into the struct leave. -/
theorem Tbl.append {w w2 : World} {base sb : Nat} {a : Option Addr} {c : Nat} {m : Value} {N : Int} {s : List Int × DataW Unit} (h : Tbl w base sb a c m N s) (x : Int) {g cap : Nat} {o : Obj}
    (hown : w2.ownsRow base 3 1 (.slice (some ⟨g, 0, none⟩) (s.1.length + 1) cap) (s.1.length + 1) (s.1.map (Value.int .i64) ++ [.int .i64 x])) (hgr : (w.alloc o).grownBy w2 (Value.slice a s.1.length c).ownBlock) (hsb : base ≤ sb) :
    w2.cell? ⟨sb, 0, none⟩ = some (.slice a s.1.length c) ∧ w2.frozen? ⟨sb, 0, none⟩ = false ∧
    Tbl (w2.setCell ⟨sb, 0, none⟩ (.slice (some ⟨g, 0, none⟩) (s.1.length + 1) cap)) base sb (some ⟨g, 0, none⟩) cap m N (s.1 ++ [x], s.2) ∧
    Below base w (w2.setCell ⟨sb, 0, none⟩ (.slice (some ⟨g, 0, none⟩) (s.1.length + 1) cap)) := by
  have hlt := lt_of_block h.blk
  have hne := row_ne_blk h.row h.blk
  have hb2 : w2.heap[sb]? = some (.cells #[.slice a s.1.length c, m, .int .i64 N] 47 (0, 0)) := by
    rw [hgr.block sb (by simp; omega) (fun e => hne e.symm), Below.heap_alloc _ _ _ hlt]
    exact h.blk
  obtain ⟨c0, _, _, f0, _, _⟩ := three_cells hb2
  have hne2 := row_ne_blk hown hb2
  have hm2 : IsMb base w2 m s.2 := by
    refine (h.map.kept (World.grownBy_alloc w o none) (fun b e => by cases e)).kept hgr (fun b e => ?_)
    rcases (h.row.alloc o).2 with ⟨h', _⟩ | ⟨g', cap', cur, h', _, hg, _⟩
    · simp at h'
      simp [h'.1, Value.ownBlock] at e
    · simp at h'
      simp [h'.1, Value.ownBlock] at e
      subst e
      exact ⟨_, _, _, hg⟩
  refine ⟨c0, f0, ⟨?_, ?_, ?_⟩, ?_⟩
  · rw [heap_setCell_same w2 sb 0 _ 47 _ hb2]
    simp
  · have := ownsRow_setCell_other hown (a := ⟨sb, 0, none⟩) hne2 (.slice (some ⟨g, 0, none⟩) (s.1.length + 1) cap)
    simpa using this
  · refine hm2.kept (grown_setCell _ _) (fun b e => ?_)
    simp at e
    subst e
    exact ⟨_, _, _, hb2⟩
  · refine ((Below.alloc (Below.refl _ _) (by omega) _).grown hgr (by simp; omega) (fun k hk => (h.row.lt k hk).1)).setCell hsb _

/-- What a delete leaves. -/
theorem Tbl.del {w w1 : World} {base sb b : Nat} {a : Option Addr} {c : Nat} {N : Int} {s : List Int × DataW Unit} (h : Tbl w base sb a c (.map (some b)) N s) (n : Nat) (D' : DataW Unit) (hb : base ≤ b)
    (ho : w.ownsMap Try.prog 24 (plainElem Try.prog 3) b (Maps.size s.2) s.2)
    (hown : w1.ownsMap Try.prog 24 (plainElem Try.prog 3) b n D') (ht : w.mapTurned w1 b) (hsb : base ≤ sb) : Tbl w1 base sb a c (.map (some b)) N (s.1, D') ∧ Below base w w1 := by
  have hgr := ht.grown
  have hlt := lt_of_block h.blk
  refine ⟨⟨?_, h.row.kept hgr (.inr (map_ne_row ho h.row)), .inr ⟨b, rfl, hb, ownsMap_tight hown⟩⟩, ?_⟩
  · rw [hgr.block sb hlt (by simpa using (map_ne_blk ho h.blk).symm)]
    exact h.blk
  · exact (Below.refl _ _).grown hgr (by omega) (fun k hk => by cases hk; exact hb)

theorem grow_hit {s : List Int × DataW Unit} {t : Nat} (h : Tab.hasK (Tab.grow t s).2 ((s.1.length : Int) + 1 + t) = true) :
    Tab.grow (t + 1) s = ((Tab.grow t s).1 ++ [Tab.val (Tab.grow t s).2 ((s.1.length : Int) + 1 + t)], (Tab.grow t s).2.del (Tab.kk ((s.1.length : Int) + 1 + t))) := by
  have e : (((Tab.grow t s).1.length : Int) + 1) = (s.1.length : Int) + 1 + t := by rw [Tab.grow_len]; omega
  rw [Tab.grow, Tab.step, e, if_pos h]
theorem grow_miss {s : List Int × DataW Unit} {t : Nat} (h : Tab.hasK (Tab.grow t s).2 ((s.1.length : Int) + 1 + t) = false) : Tab.grow (t + 1) s = ((Tab.grow t s).1 ++ [-1], (Tab.grow t s).2) := by
  have e : (((Tab.grow t s).1.length : Int) + 1) = (s.1.length : Int) + 1 + t := by rw [Tab.grow_len]; omega
  rw [Tab.grow, Tab.step, e, if_neg (by rw [h]; exact Bool.false_ne_true)]

set_option maxHeartbeats 1000000 in
theorem add_grow (base sb : Nat) (a : Option Addr) (c : Nat) (m : Value) (named T : Nat) (i : Int) (s : List Int × DataW Unit) (w : World) (hT : Tbl w base sb a c m named s)
    (hl : s.1.length ≤ 1000000) (hN : named ≤ 1000000) (hn : s.1.length + 1 + T ≤ 2 * (named + 1)) (hsb : base ≤ sb) :
    Calls Try.prog 33 #[.pointer (some ⟨sb, 0, none⟩), .int .u64 ((s.1.length : Int) + 1 + T), .int .i64 i] w fun e w' => e = .returned (.tuple #[]) ∧
      ∃ a' c', Tbl w' base sb a' c' m ((named : Int) + 1) ((Tab.grow T s).1 ++ [i], (Tab.grow T s).2) ∧ Below base w w' := by
  obtain ⟨c0, c1, c2, f0, f1, f2⟩ := three_cells hT.blk
  have hT1 := hT.setN ((named : Int) + 1)
  obtain ⟨k0, k1, k2, g0, g1, g2⟩ := three_cells hT1.blk
  have hlt := lt_of_block hT.blk
  have hbel : Below base w (w.setCell ⟨sb, 2, none⟩ (.int .i64 ((named : Int) + 1))) := (Below.refl _ _).setCell hsb _
  have HT : Hid (Tbl w base sb a c m named s) := hT
  have HT1 : Hid (Tbl (w.setCell ⟨sb, 2, none⟩ (.int .i64 ((named : Int) + 1))) base sb a c m ((named : Int) + 1) s) := hT1
  clear hT hT1
  go_enter Try.func33, Try.ntmps33
  go_wp2
  go_loopw [6, 7, 8] (fun k _ _ wr => ∃ t a' c', t ≤ T ∧ k = .int .u64 ((s.1.length : Int) + 1 + (t : Nat)) ∧ Tbl wr base sb a' c' m ((named : Int) + 1) (Tab.grow t s) ∧ Below base w wr)
    (fun k _ _ _ => (s.1.length + 1 + T) - (intOf k).toNat)
  case atStart => exact ⟨0, a, c, Nat.zero_le _, by go_num, HT1.out, hbel⟩
  case round =>
    obtain ⟨t, a1, c1', ht, rfl, hTr, hbr⟩ := hrel
    clear c0 c1 c2 f0 f1 f2 k0 k1 k2 g0 g1 g2 hbel HT HT1
    obtain ⟨c0, c1, c2, f0, f1, f2⟩ := three_cells hTr.blk
    have hgl : (Tab.grow t s).1.length ≤ 3000000 := by rw [Tab.grow_len]; omega
    have hlk := hTr.map.isM.look (n := (s.1.length : Int) + 1 + (t : Nat)) (by omega) (by omega)
    by_cases hlt2 : t < T
    · have hsz := hbr.size
      cases hh : Tab.hasK (Tab.grow t s).2 ((s.1.length : Int) + 1 + t)
      · rw [hh] at hlk
        have HE : Hid (Tab.grow (t + 1) s = ((Tab.grow t s).1 ++ [-1], (Tab.grow t s).2)) := grow_miss hh
        clear hh
        go_wp2_with (at_builtin; go_must (refine wpList_append_shaped _ rfl _ _ 22 rfl base 3 (.int .i64 0) 1 8 Try.underlying22 info3 rfl (by decide) _ _ _ rfl (hTr.row.alloc _) ⟨wr.heap.size, 0, none⟩ 1 1 [.int .i64 (-1)] rfl rfl (cell_one_new _ _ _) (ints_oneCell .i64 [-1]) (by decide) (by unfold maxLen; omega) (by omega) (by simp; omega) ?_); intro g cap w2 hown hgr hloc; obtain ⟨q0, q1, q2, q3⟩ := hTr.append (-1) hown hgr hsb)
        go_roundw
        case rel => exact ⟨t + 1, _, _, by omega, by go_num, by rw [HE.out]; exact q2, hbr.trans q3⟩
        case measure => simp [intOf]; omega
      · rw [hh] at hlk
        have HE : Hid (Tab.grow (t + 1) s = ((Tab.grow t s).1 ++ [Tab.val (Tab.grow t s).2 ((s.1.length : Int) + 1 + t)], (Tab.grow t s).2.del (Tab.kk ((s.1.length : Int) + 1 + t)))) := grow_hit hh
        rcases hTr.map with ⟨rfl, hD⟩ | ⟨b, rfl, hb, ho⟩
        · rw [hD] at hh
          simp [Tab.hasK, Maps.has] at hh
        · clear hh
          have hkey := key24 (n := (s.1.length : Int) + 1 + (t : Nat)) (by omega) (by omega)
          generalize Tab.val (Tab.grow t s).2 ((s.1.length : Int) + 1 + t) = x at *
          go_wp2_with (first
            | (at_delete; refine wpList_delete_own _ rfl _ _ 26 24 rfl 3 law24 Try.underlying26 (plainElem (H := Unit) Try.prog 3) b _ _ rfl ho _ _ rfl hkey ?_; intro w1 hown1 hturn1; obtain ⟨hTd, hbd⟩ := hTr.del _ _ hb ho hown1 hturn1 hsb; have hsz1 := hbd.size; obtain ⟨d0, d1, d2, fd0, fd1, fd2⟩ := three_cells hTd.blk)
            | (at_builtin; go_must (refine wpList_append_shaped _ rfl _ _ 22 rfl base 3 (.int .i64 0) 1 8 Try.underlying22 info3 rfl (by decide) _ _ _ rfl (hTd.row.alloc _) ⟨w1.heap.size, 0, none⟩ 1 1 [.int .i64 x] rfl rfl (cell_one_new _ _ _) (ints_oneCell .i64 [x]) (by decide) (by show (Tab.grow t s).1.length + 1 ≤ maxLen; unfold maxLen; omega) (by show ((Tab.grow t s).1.length + 1) * 8 ≤ _; omega) (by simp; omega) ?_); intro g cap w2 hown hgr hloc; obtain ⟨q0, q1, q2, q3⟩ := hTd.append x hown hgr hsb))
          go_roundw
          case rel => exact ⟨t + 1, _, _, by omega, by go_num, by rw [HE.out]; exact q2, hbr.trans (hbd.trans q3)⟩
          case measure => simp [intOf]; omega
    · obtain rfl : t = T := by omega
      have hsz := hbr.size
      go_wp2_with (at_builtin; go_must (refine wpList_append_shaped _ rfl _ _ 22 rfl base 3 (.int .i64 0) 1 8 Try.underlying22 info3 rfl (by decide) _ _ _ rfl (hTr.row.alloc _) ⟨wr.heap.size, 0, none⟩ 1 1 [.int .i64 i] rfl rfl (cell_one_new _ _ _) (ints_oneCell .i64 [i]) (by decide) (by unfold maxLen; omega) (by omega) (by simp; omega) ?_); intro g cap w2 hown hgr hloc; obtain ⟨q0, q1, q2, q3⟩ := hTr.append i hown hgr hsb)
      go_end0
      exact ⟨rfl, _, _, q2, hbr.trans q3⟩

end Go.Proofs.Qxb6601966a
