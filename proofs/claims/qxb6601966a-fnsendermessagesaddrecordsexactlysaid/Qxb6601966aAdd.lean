/-
  (*senderMessages).add, whole, and ZZSenderMessagesAdd.
-/
import Derived.Test.Qxb6601966aAddC
import Derived.Deep.QuietTactic
import Derived.BigQuiet
import Derived.WalkLawsBesides
namespace Go.Proofs.Qxb6601966a
open Go Go.RowKit Go.Maps

theorem add_calls (base sb : Nat) (a : Option Addr) (c : Nat) (m : Value) (named : Nat) (n i : Int) (s : List Int × DataW Unit) (w : World) (hT : Tbl w base sb a c m named s) (h1 : 1 ≤ n) (h3 : n < 18446744073709551616)
    (hi : (Lit.int .i64 i).wf = true) (hl : s.1.length ≤ 1000000) (hN : named ≤ 1000000) (hsz : Maps.size s.2 ≤ 1000000) (hsb : base ≤ sb) :
    Calls Try.prog 33 #[.pointer (some ⟨sb, 0, none⟩), .int .u64 n, .int .i64 i] w fun e w' => e = .returned (.tuple #[]) ∧
      ∃ a' c' m', Tbl w' base sb a' c' m' ((named : Int) + 1) (Tab.add s named n i) ∧ Below base w w' := by
  by_cases h4 : n ≤ s.1.length
  · exact add_in_tbl base sb a c m named n i s w hT h1 h4 hl hN hsb
  · by_cases h5 : 2 * ((named : Int) + 1) < n
    · exact add_put_tbl base sb a c m named n i s w hT (by omega) h5 h3 hi hl hN hsz hsb
    · obtain ⟨T, rfl⟩ : ∃ T : Nat, n = (s.1.length : Int) + 1 + T := ⟨(n - 1 - s.1.length).toNat, by omega⟩
      refine (add_grow base sb a c m named T i s w hT hl hN (by omega) hsb).mono ?_
      rintro e w' ⟨rfl, a', c', h6, h7⟩
      refine ⟨rfl, a', c', m, ?_, h7⟩
      have e1 : Tab.add s named ((s.1.length : Int) + 1 + T) i = ((Tab.grow T s).1 ++ [i], (Tab.grow T s).2) := by
        unfold Tab.add
        rw [if_neg h4, if_neg h5]
        have e2 : (((s.1.length : Int) + 1 + T) - 1).toNat - s.1.length = T := by omega
        rw [e2]
      rw [e1]
      exact h6

set_option maxHeartbeats 1000000 in
theorem zzadd_calls (base : Nat) (a : Option Addr) (c : Nat) (m : Value) (named : Nat) (n i : Int) (s : List Int × DataW Unit) (w : World)
    (hrow : w.ownsRow base 3 1 (.slice a s.1.length c) s.1.length (s.1.map (Value.int .i64))) (hmap : IsMb base w m s.2) (hbase : base ≤ w.heap.size) (h1 : 1 ≤ n) (h3 : n < 18446744073709551616)
    (hi : (Lit.int .i64 i).wf = true) (hl : s.1.length ≤ 1000000) (hN : named ≤ 1000000) (hsz : Maps.size s.2 ≤ 1000000) :
    Calls Try.prog 11 #[.slice a s.1.length c, m, .int .i64 (named : Int), .int .u64 n, .int .i64 i] w fun e w' =>
      ∃ a' c' m', e = .returned (.tuple #[.slice a' (Tab.add s named n i).1.length c', m', .int .i64 ((named : Int) + 1)]) ∧
      w'.ownsRow base 3 1 (.slice a' (Tab.add s named n i).1.length c') (Tab.add s named n i).1.length ((Tab.add s named n i).1.map (Value.int .i64)) ∧ IsMb base w' m' (Tab.add s named n i).2 ∧ Below base w w' := by
  obtain ⟨mm, rfl⟩ : ∃ mm, m = .map mm := by
    rcases hmap with ⟨rfl, _⟩ | ⟨b, rfl, _⟩
    · exact ⟨_, rfl⟩
    · exact ⟨_, rfl⟩
  have hT : Tbl (w.alloc (.cells #[.slice a s.1.length c, .map mm, .int .i64 (named : Int)] 47)) base w.heap.size a c (.map mm) named s :=
    ⟨heap_alloc_new w _, hrow.alloc _, hmap.kept (World.grownBy_alloc w _ none) (fun b e => by cases e)⟩
  go_enter Try.func11, Try.ntmps11
  go_wp2_with (go_at_call 33; go_must (refine (add_calls base w.heap.size a c (.map mm) named n i s _ hT h1 h3 hi hl hN hsz hbase).mono ?_); rintro e w1 ⟨rfl, a', c', m', hT1, hb1⟩; obtain ⟨c0, c1, c2, f0, f1, f2⟩ := three_cells hT1.blk)
  go_quiet (fail)
  go_wp2
  go_ret3
  exact ⟨a', c', m', rfl, hT1.row, hT1.map, below_drewN (((Below.refl _ _).alloc hbase _).trans hb1) nq⟩

end Go.Proofs.Qxb6601966a
