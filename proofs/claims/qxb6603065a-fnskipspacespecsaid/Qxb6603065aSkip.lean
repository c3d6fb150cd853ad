/-
  skipSpace and zzIsWS_sjb1: their walks.
-/
import Derived.Test.Qxb6603065aProg
import Derived.Test.Qxb6603065aCopy
import Derived.WalkSpells
import Derived.OpenShut
namespace Go.Proofs.Qxb6603065a
open Go Go.RowKit

/-- JSON white space. -/
def ws (x : Int) : Bool := x == 32 || x == 9 || x == 10 || x == 13

theorem ws_false {x : Int} (h1 : x ≠ 32) (h2 : x ≠ 9) (h3 : x ≠ 10) (h4 : x ≠ 13) : ws x = false := by simp [ws, h1, h2, h3, h4]

theorem isws_calls (x : Int) (w : World) : Calls Try.prog 12 #[.int .u8 x] w fun e w' => e = .returned (.bool (ws x)) ∧ w' = w := by
  by_cases h1 : x = 32
  · subst h1
    go_enter Try.func12, Try.ntmps12
    go_wp2
    go_ret
    exact ⟨rfl, rfl⟩
  by_cases h2 : x = 9
  · subst h2
    go_enter Try.func12, Try.ntmps12
    go_wp2
    go_ret
    exact ⟨rfl, rfl⟩
  by_cases h3 : x = 10
  · subst h3
    go_enter Try.func12, Try.ntmps12
    go_wp2
    go_ret
    exact ⟨rfl, rfl⟩
  by_cases h4 : x = 13
  · subst h4
    go_enter Try.func12, Try.ntmps12
    go_wp2
    go_ret
    exact ⟨rfl, rfl⟩
  · rw [ws_false h1 h2 h3 h4]
    have k1 : (x == 32) = false := by simpa using h1
    have k2 : (x == 9) = false := by simpa using h2
    have k3 : (x == 10) = false := by simpa using h3
    have k4 : (x == 13) = false := by simpa using h4
    clear h1 h2 h3 h4
    go_enter Try.func12, Try.ntmps12
    go_wp2
    go_ret
    exact ⟨rfl, rfl⟩

/-- From the end on skipSpace answers where it stands. -/
theorem skip_past (a : Option Addr) (l c : Nat) (i : Int) (w : World) (h : (l : Int) ≤ i) : Calls Try.prog 25 #[.slice a l c, .int .i64 i] w fun e w' => e = .returned (.int .i64 i) ∧ w = w' := by
  go_enter Try.func25, Try.ntmps25
  go_wp2
  refine wp_loop_rounds 1 ?_
  rw [rounds_succ]
  go_wp2
  go_ret
  exact ⟨rfl, rfl⟩

/-- What skipSpace answers from k0 on. -/
def Skips (zs : List Int) (k0 r : Nat) : Prop := k0 ≤ r ∧ r ≤ zs.length ∧ (∀ k, k0 ≤ k → k < r → ws (zs.getD k 0) = true) ∧ (r < zs.length → ws (zs.getD r 0) = false)

set_option maxHeartbeats 400000 in
theorem skip_in (b off l c k0 : Nat) (zs : List Int) (w : World) (hl : l = zs.length) (hmax : l ≤ 1048576) (hk0 : k0 < l) (hc : ∀ i, i < zs.length → w.cell? ⟨b, off + i, none⟩ = some (.int .u8 (zs.getD i 0))) :
    Calls Try.prog 25 #[.slice (some ⟨b, off, none⟩) l c, .int .i64 (k0 : Int)] w fun e w' => ∃ r : Nat, e = .returned (.int .i64 (r : Int)) ∧ Skips zs k0 r ∧ w = w' := by
  have HL : Hid (l = zs.length) := hl
  have HC : Hid (∀ i, i < zs.length → w.cell? ⟨b, off + i, none⟩ = some (.int .u8 (zs.getD i 0))) := hc
  clear hl hc
  go_enter Try.func25, Try.ntmps25
  go_wp2
  go_loop [1] (fun i => ∃ t : Nat, k0 ≤ t ∧ t ≤ l ∧ i = .int .i64 t ∧ ∀ k, k0 ≤ k → k < t → ws (zs.getD k 0) = true) (fun i => l - (intOf i).toNat)
  case atStart => exact ⟨k0, Nat.le_refl _, by omega, rfl, fun k h1 h2 => by omega⟩
  case round =>
    obtain ⟨t, ht0, ht1, rfl, hws⟩ := hrel
    have HW : Hid (∀ k, k0 ≤ k → k < t → ws (zs.getD k 0) = true) := hws
    clear hws
    by_cases hlt : t < l
    · obtain ⟨x, hx⟩ : ∃ x, x = zs.getD t 0 := ⟨_, rfl⟩
      have hcx : w.cell? ⟨b, off + t, none⟩ = some (.int .u8 x) := by rw [hx]; exact HC.out t (by have := HL.out; omega)
      have HX : Hid (x = zs.getD t 0) := hx
      clear hx
      have yes : ws x = true → ∀ k, k0 ≤ k → k < t + 1 → ws (zs.getD k 0) = true := by
        intro hx k h1 h2
        by_cases e : k = t
        · subst e; rw [← HX.out]; exact hx
        · exact HW.out k h1 (by omega)
      have HY : Hid (ws x = true → ∀ k, k0 ≤ k → k < t + 1 → ws (zs.getD k 0) = true) := yes
      clear yes
      by_cases h1 : x = 32
      · subst h1
        go_wp2
        go_round
        case rel => exact ⟨t + 1, by omega, by omega, by go_num, HY.out rfl⟩
        case measure => simp [intOf]; omega
      by_cases h2 : x = 9
      · subst h2
        go_wp2
        go_round
        case rel => exact ⟨t + 1, by omega, by omega, by go_num, HY.out rfl⟩
        case measure => simp [intOf]; omega
      by_cases h3 : x = 10
      · subst h3
        go_wp2
        go_round
        case rel => exact ⟨t + 1, by omega, by omega, by go_num, HY.out rfl⟩
        case measure => simp [intOf]; omega
      by_cases h4 : x = 13
      · subst h4
        go_wp2
        go_round
        case rel => exact ⟨t + 1, by omega, by omega, by go_num, HY.out rfl⟩
        case measure => simp [intOf]; omega
      · have hno := ws_false h1 h2 h3 h4
        have HN : Hid (ws x = false) := hno
        have k1 : (x == 32) = false := by simpa using h1
        have k2 : (x == 9) = false := by simpa using h2
        have k3 : (x == 10) = false := by simpa using h3
        have k4 : (x == 13) = false := by simpa using h4
        clear h1 h2 h3 h4 hno
        go_wp2
        go_ret
        exact ⟨t, rfl, ⟨ht0, by have := HL.out; omega, HW.out, fun _ => by rw [← HX.out]; exact HN.out⟩, rfl⟩
    · go_wp2
      go_ret
      exact ⟨t, rfl, ⟨ht0, by have := HL.out; omega, HW.out, fun h => by have := HL.out; omega⟩, rfl⟩

theorem bytes_skip (a : Option Addr) (l c : Nat) (i : Int) (w : World) (h0 : l ≤ maxLen) :
    Calls Try.prog 10 #[.slice a l c, .int .i64 i] w fun e w' => e = .returned (.bool (decide ((l : Int) ≤ 1048576))) ∧ w = w' := by
  unfold maxLen at h0
  by_cases k0 : (l : Int) ≤ 1048576
  · go_enter Try.func10, Try.ntmps10
    go_wp2
    go_ret
    exact ⟨by simp [k0], rfl⟩
  · go_enter Try.func10, Try.ntmps10
    go_wp2
    go_ret
    exact ⟨by simp [k0], rfl⟩

end Go.Proofs.Qxb6603065a
