/-
  FnSenderMessagesAddScriptFromEmpty: the short ways.
-/
import Derived.Test.Qxb6601966aScriptLaw
namespace Go.Proofs.Qxb6601966a
open Go Go.RowKit Go.Maps

set_option maxHeartbeats 400000 in
theorem script_zero (a0 a1 : Option Addr) (c0 c1 : Nat) (w : World) :
    Calls Try.prog 4 #[.slice a0 0 c0, .slice a1 0 c1] w fun e w' => e = .returned (.bool true) ∧ Below w.heap.size w w' := by
  have hmm := fun q n w => run_makeMap_hint (P := Try.prog) Try.underlying33 q n w
  have hby := bytes_script a0 a1 0 c0 0 c1 w (by decide) (by decide)
  have hlen := fun w ty => Maps.len_nil (P := Try.prog) (w := w) Try.underlying26 ty
  go_enter Try.func4, Try.ntmps4
  go_wp2_with (go_at_call 13; go_must (refine hby.mono ?_); rintro e w2 ⟨⟨b, rfl⟩, rfl⟩; cases b)
  · go_ret
    exact ⟨rfl, Below.refl _ _⟩
  clear hby
  refine wp_loop_rounds 1 ?_
  rw [rounds_succ]
  go_wp2
  refine wp_loop_rounds 1 ?_
  rw [rounds_succ]
  go_wp2
  refine wp_loop_rounds 1 ?_
  rw [rounds_succ]
  go_wp2
  refine wp_loop_rounds 1 ?_
  rw [rounds_succ]
  go_wp2
  go_ret
  exact ⟨rfl, (Below.refl _ _).alloc (Nat.le_refl _) _⟩

set_option maxHeartbeats 400000 in
theorem script_long (a0 a1 : Option Addr) (l0 c0 l1 c1 : Nat) (w : World) (h0 : l0 ≤ maxLen) (h1 : l1 ≤ maxLen) (h : 65536 < l0 ∨ 65536 < l1 ∨ l0 ≠ l1) :
    Calls Try.prog 4 #[.slice a0 l0 c0, .slice a1 l1 c1] w fun e w' => e = .returned (.bool true) ∧ Below w.heap.size w w' := by
  have hby := bytes_script a0 a1 l0 c0 l1 c1 w h0 h1
  unfold maxLen at h0 h1
  by_cases k0 : 65536 < l0
  · go_enter Try.func4, Try.ntmps4
    go_wp2_with (go_at_call 13; go_must (refine hby.mono ?_); rintro e w2 ⟨⟨b, rfl⟩, rfl⟩; cases b)
    all_goals
      go_ret
      exact ⟨rfl, Below.refl _ _⟩
  · by_cases k1 : 65536 < l1
    · go_enter Try.func4, Try.ntmps4
      go_wp2_with (go_at_call 13; go_must (refine hby.mono ?_); rintro e w2 ⟨⟨b, rfl⟩, rfl⟩; cases b)
      all_goals
        go_ret
        exact ⟨rfl, Below.refl _ _⟩
    · have k2 : ((l0 : Int) != (l1 : Int)) = true := by simp; omega
      clear h
      go_enter Try.func4, Try.ntmps4
      go_wp2_with (go_at_call 13; go_must (refine hby.mono ?_); rintro e w2 ⟨⟨b, rfl⟩, rfl⟩; cases b)
      all_goals
        go_ret
        exact ⟨rfl, Below.refl _ _⟩

end Go.Proofs.Qxb6601966a
