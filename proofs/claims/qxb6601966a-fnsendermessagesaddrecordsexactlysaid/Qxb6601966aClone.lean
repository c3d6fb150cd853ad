/-
  cloneInts, and the bound on total length of FnSenderMessagesAddRecordsExactly.
-/
import Derived.Test.Qxb6601966aScript
import Derived.Test.Qxb6601966aCopy
namespace Go.Proofs.Qxb6601966a
open Go Go.RowKit Go.Maps

set_option maxHeartbeats 400000 in
theorem clone_calls (base : Nat) (a : Option Addr) (c : Nat) (zs : List Int) (w : World) (ha : a = none → zs = []) (hR : 0 < zs.length → ∃ b off, a = some ⟨b, off, none⟩ ∧ b < w.heap.size ∧ ∀ i, i < zs.length → w.cell? ⟨b, off + i, none⟩ = some (.int .i64 (zs.getD i 0)))
    (hl : zs.length ≤ 1000000) (hbase : base ≤ w.heap.size) :
    Calls Try.prog 12 #[.slice a zs.length c] w fun e w' => ∃ a' c', e = .returned (.slice a' zs.length c') ∧ w'.ownsRow base 3 1 (.slice a' zs.length c') zs.length (zs.map (Value.int .i64)) ∧ w.grownBy w' none := by
  have q22 : ∀ (w : World) (a : Option Addr) (n c n' c' : Nat), (binOp .eql 22 (.slice a n c) (.slice none n' c')).run Try.prog w = .ok (.bool a.isNone) w := fun w a n c n' c' => Lib.run_eql_slice_nil w _ _ a n c n' c' Try.underlying22
  cases a with
  | none =>
    obtain rfl := ha rfl
    clear hR
    go_enter Try.func12, Try.ntmps12
    go_wp2
    go_ret
    exact ⟨none, 0, rfl, World.ownsRow_nil _ _ _ _, ⟨rfl, rfl, rfl, Nat.le_refl _, fun _ _ _ => rfl⟩⟩
  | some x =>
    obtain ⟨W1, W2, hmk, hcp, hown, hgr⟩ := make_copy (P := Try.prog) (z := .int .i64 0) (bytes := 8) Try.underlying22 (by kernel_rfl) w (some x) zs.length c base (zs.map (Value.int .i64)) (by simp) (by omega) (by unfold maxLen; omega) hbase (ints_oneCell .i64 zs)
      (fun hp => by
        obtain ⟨b, off, e, _, hc⟩ := hR hp
        refine ⟨b, off, e, fun i v hv => ?_⟩
        have hi : i < zs.length := by have := (List.getElem?_eq_some_iff.1 hv).1; simpa using this
        rw [hc i hi]
        simpa [List.getElem?_eq_getElem hi] using hv)
    clear hR ha
    generalize zs.length = L at *
    go_enter Try.func12, Try.ntmps12
    go_wp2
    go_ret
    exact ⟨_, _, rfl, hown, hgr⟩

set_option maxHeartbeats 400000 in
theorem bytes_records (a0 a1 a2 : Option Addr) (l0 c0 l1 c1 l2 c2 : Nat) (x y z : Int) (w : World) (h0 : l0 ≤ maxLen) (h1 : l1 ≤ maxLen) (h2 : l2 ≤ maxLen) :
    Calls Try.prog 9 #[.slice a0 l0 c0, .slice a1 l1 c1, .slice a2 l2 c2, .int .i64 x, .int .u64 y, .int .i64 z] w fun e w' => SomeBool e ∧ w' = w := by
  unfold maxLen at h0 h1 h2
  by_cases k0 : (l0 : Int) ≤ 1048576
  · by_cases k1 : (l1 : Int) ≤ 1048576
    · by_cases k2 : (l0 : Int) + l1 ≤ 1048576
      · by_cases k3 : (l2 : Int) ≤ 1048576
        · by_cases k4 : (l0 : Int) + l1 + l2 ≤ 1048576
          · go_enter Try.func9, Try.ntmps9
            go_wp2
            go_ret
            exact ⟨⟨_, rfl⟩, rfl⟩
          · go_enter Try.func9, Try.ntmps9
            go_wp2
            go_ret
            exact ⟨⟨_, rfl⟩, rfl⟩
        · go_enter Try.func9, Try.ntmps9
          go_wp2
          go_ret
          exact ⟨⟨_, rfl⟩, rfl⟩
      · go_enter Try.func9, Try.ntmps9
        go_wp2
        go_ret
        exact ⟨⟨_, rfl⟩, rfl⟩
    · go_enter Try.func9, Try.ntmps9
      go_wp2
      go_ret
      exact ⟨⟨_, rfl⟩, rfl⟩
  · go_enter Try.func9, Try.ntmps9
    go_wp2
    go_ret
    exact ⟨⟨_, rfl⟩, rfl⟩

end Go.Proofs.Qxb6601966a
