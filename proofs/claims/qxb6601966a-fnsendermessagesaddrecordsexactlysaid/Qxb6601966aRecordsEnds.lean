/-
  FnSenderMessagesAddRecordsExactly: the short ways.
-/
import Derived.Test.Qxb6601966aRecordsLaw
namespace Go.Proofs.Qxb6601966a
open Go Go.RowKit Go.Maps

set_option maxRecDepth 100000 in
set_option maxHeartbeats 2000000 in
theorem records_short (a0 a1 a2 : Option Addr) (l0 c0 l1 c1 l2 c2 : Nat) (named n i : Int) (w : World) (h0 : l0 ≤ maxLen) (h1 : l1 ≤ maxLen) (h2 : l2 ≤ maxLen)
    (h : ¬ (l0 ≤ 131072 ∧ l1 ≤ 131072 ∧ l2 ≤ 131072 ∧ l0 + l1 + l2 ≤ 131072 ∧ l1 = l2 ∧ n ≠ 0 ∧ 0 ≤ i ∧ 0 ≤ named)) :
    Calls Try.prog 3 #[.slice a0 l0 c0, .slice a1 l1 c1, .slice a2 l2 c2, .int .i64 named, .int .u64 n, .int .i64 i] w fun e w' => e = .returned (.bool true) ∧ Below w.heap.size w w' := by
  have hby := bytes_records a0 a1 a2 l0 c0 l1 c1 l2 c2 named n i w h0 h1 h2
  unfold maxLen at h0 h1 h2
  by_cases k0 : 131072 < l0
  · clear h
    go_enter Try.func3, Try.ntmps3
    go_wp2_with (go_at_call 9; go_must (refine hby.mono ?_); rintro e w2 ⟨⟨b, rfl⟩, rfl⟩; cases b)
    all_goals
      go_ret
      exact ⟨rfl, Below.refl _ _⟩
  by_cases k1 : 131072 < l1
  · clear h
    go_enter Try.func3, Try.ntmps3
    go_wp2_with (go_at_call 9; go_must (refine hby.mono ?_); rintro e w2 ⟨⟨b, rfl⟩, rfl⟩; cases b)
    all_goals
      go_ret
      exact ⟨rfl, Below.refl _ _⟩
  by_cases k2 : 131072 < l2
  · clear h
    go_enter Try.func3, Try.ntmps3
    go_wp2_with (go_at_call 9; go_must (refine hby.mono ?_); rintro e w2 ⟨⟨b, rfl⟩, rfl⟩; cases b)
    all_goals
      go_ret
      exact ⟨rfl, Below.refl _ _⟩
  by_cases k3 : 131072 < l0 + l1 + l2
  · clear h
    go_enter Try.func3, Try.ntmps3
    go_wp2_with (go_at_call 9; go_must (refine hby.mono ?_); rintro e w2 ⟨⟨b, rfl⟩, rfl⟩; cases b)
    all_goals
      go_ret
      exact ⟨rfl, Below.refl _ _⟩
  by_cases k4 : l1 = l2
  · subst k4
    have k4b : ((l1 : Int) != (l1 : Int)) = false := by simp
    by_cases k5 : n = 0
    · subst k5
      clear h
      go_enter Try.func3, Try.ntmps3
      go_wp2_with (go_at_call 9; go_must (refine hby.mono ?_); rintro e w2 ⟨⟨b, rfl⟩, rfl⟩; cases b)
      all_goals
        go_ret
        exact ⟨rfl, Below.refl _ _⟩
    · have k5b : (n == 0) = false := by simpa using k5
      by_cases k6 : i < 0
      · clear h
        go_enter Try.func3, Try.ntmps3
        go_wp2_with (go_at_call 9; go_must (refine hby.mono ?_); rintro e w2 ⟨⟨b, rfl⟩, rfl⟩; cases b)
        all_goals
          go_ret
          exact ⟨rfl, Below.refl _ _⟩
      · have k7 : named < 0 := by omega
        clear h
        go_enter Try.func3, Try.ntmps3
        go_wp2_with (go_at_call 9; go_must (refine hby.mono ?_); rintro e w2 ⟨⟨b, rfl⟩, rfl⟩; cases b)
        all_goals
          go_ret
          exact ⟨rfl, Below.refl _ _⟩
  · have k4b : ((l1 : Int) != (l2 : Int)) = true := by simp; omega
    clear h
    go_enter Try.func3, Try.ntmps3
    go_wp2_with (go_at_call 9; go_must (refine hby.mono ?_); rintro e w2 ⟨⟨b, rfl⟩, rfl⟩; cases b)
    all_goals
      go_ret
      exact ⟨rfl, Below.refl _ _⟩

end Go.Proofs.Qxb6601966a
