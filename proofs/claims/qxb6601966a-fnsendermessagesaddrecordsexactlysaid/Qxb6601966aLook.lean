/-
  lookupNumber: its walk. What a slice of numbers and a map from uint64 to int are told by.
-/
import Derived.Test.Qxb6601966aProg
import Derived.Test.Qxb6601966aPlain
import Derived.WalkKit
import Derived.WalkSpells
import Derived.Maps.OwnSet
namespace Go.Proofs.Qxb6601966a
open Go Go.RowKit Go.Maps

theorem law24 : Keyed Try.prog 24 := int_keyed Try.underlying24
theorem zero3 (w : World) : (zeroValue 3).run Try.prog w = .ok (.int .i64 0) w := by kernel_rfl

/-- THE SLICE v READS AS THE NUMBERS zs. -/
def Reads (k : IntKind) (w : World) (v : Value) (zs : List Int) : Prop :=
  ∃ a cap, v = .slice a zs.length cap ∧ (0 < zs.length → ∃ b off, a = some ⟨b, off, none⟩ ∧ b < w.heap.size ∧ ∀ i, i < zs.length → w.cell? ⟨b, off + i, none⟩ = some (.int k (zs.getD i 0)))

/-- THE MAP VALUE m READS AS D (nil as the empty map). -/
def IsM (w : World) (m : Value) (D : DataW Unit) : Prop :=
  (m = .map none ∧ D = .map []) ∨ ∃ b n, m = .map (some b) ∧ w.ownsMap Try.prog 24 (plainElem Try.prog 3) b n D

theorem key24 {n : Int} (h0 : 0 ≤ n) (h1 : n < 18446744073709551616) : keyOf Try.prog 24 (.int .u64 n) = some (Tab.kk n) :=
  keyOf_int_mk Try.underlying24 (WalkArith.wf_u64 ⟨h0, by omega⟩)

theorem IsM.look {w : World} {m : Value} {D : DataW Unit} (h : IsM w m D) {n : Int} (h0 : 0 ≤ n) (h1 : n < 18446744073709551616) :
    (Instr.lookup 26 m (.int .u64 n) true).run Try.prog w = .ok (.tuple #[.int .i64 (Tab.val D n), .bool (Tab.hasK D n)]) w := by
  rcases h with ⟨rfl, rfl⟩ | ⟨b, k, rfl, ho⟩
  · rw [Maps.look_nil true law24 Try.underlying26 (zero3 w) (key24 h0 h1)]
    rfl
  · obtain ⟨v, ps, hrun, hv⟩ := ho.look_ok law24 Try.underlying26 (zero3 w) (plainElem_int Try.underlying3 (by decide)) (key24 h0 h1)
    obtain ⟨c, rfl, hc, hwc⟩ := plainElem_int_inv Try.underlying3 hv
    rw [hrun]
    have e : D.atKey (Tab.kk n) (.lit (.int .i64 0)) = .lit (.int .i64 c) := congrArg Prod.fst hc
    have e2 : Tab.val D n = c := by unfold Tab.val Tab.vv; rw [e]; rfl
    rw [e2]
    rfl

set_option maxHeartbeats 400000 in
theorem look_in (a : Option Addr) (cap : Nat) (m : Value) (bn : List Int) (k : Nat) (w : World) (hk : k < bn.length) (hl : bn.length ≤ 1000000) (b off : Nat) (ha : a = some ⟨b, off, none⟩) (hc : w.cell? ⟨b, off + k, none⟩ = some (.int .i64 (bn.getD k 0))) :
    Calls Try.prog 10 #[.slice a bn.length cap, m, .int .u64 ((k : Int) + 1)] w fun e w' => e = .returned (.int .i64 (bn.getD k 0)) ∧ w' = w := by
  subst ha
  obtain ⟨x, hx⟩ : ∃ x, x = bn.getD k 0 := ⟨_, rfl⟩
  rw [← hx] at hc ⊢
  clear hx
  go_enter Try.func10, Try.ntmps10
  go_wp2
  go_ret
  exact ⟨rfl, rfl⟩

set_option maxHeartbeats 400000 in
theorem look_out (a : Option Addr) (len cap : Nat) (m : Value) (n c : Int) (t : Bool) (w : World) (hl : len ≤ 1000000) (h0 : 0 ≤ n) (h1 : n < 18446744073709551616) (hout : n < 1 ∨ (len : Int) < n)
    (hrun : (Instr.lookup 26 m (.int .u64 n) true).run Try.prog w = .ok (.tuple #[.int .i64 c, .bool t]) w) :
    Calls Try.prog 10 #[.slice a len cap, m, .int .u64 n] w fun e w' => e = .returned (.int .i64 (if t then c else -1)) ∧ w' = w := by
  rcases hout with h | h
  · cases t
    · go_enter Try.func10, Try.ntmps10
      go_wp2
      go_ret
      exact ⟨rfl, rfl⟩
    · go_enter Try.func10, Try.ntmps10
      go_wp2
      go_ret
      exact ⟨rfl, rfl⟩
  · have h2 : 1 ≤ n := by omega
    cases t
    · go_enter Try.func10, Try.ntmps10
      go_wp2
      go_ret
      exact ⟨rfl, rfl⟩
    · go_enter Try.func10, Try.ntmps10
      go_wp2
      go_ret
      exact ⟨rfl, rfl⟩

/-- lookupNumber, whole. -/
theorem look_calls {v m : Value} {bn : List Int} {D : DataW Unit} {w : World} (n : Int) (hR : Reads .i64 w v bn) (hM : IsM w m D) (hl : bn.length ≤ 1000000) (h0 : 0 ≤ n) (h1 : n < 18446744073709551616) :
    Calls Try.prog 10 #[v, m, .int .u64 n] w fun e w' => e = .returned (.int .i64 (Tab.look (bn, D) n)) ∧ w' = w := by
  obtain ⟨a, cap, rfl, ha⟩ := hR
  by_cases h : 1 ≤ n ∧ n ≤ bn.length
  · obtain ⟨k, rfl⟩ : ∃ k : Nat, n = (k : Int) + 1 := ⟨(n - 1).toNat, by omega⟩
    obtain ⟨b, off, hab, _, hc⟩ := ha (by omega)
    have e : Tab.look (bn, D) ((k : Int) + 1) = bn.getD k 0 := by
      rw [Tab.look_in h]
      congr 1
      omega
    rw [e]
    exact look_in a cap m bn k w (by omega) hl b off hab (hc k (by omega))
  · have e : Tab.look (bn, D) n = if Tab.hasK D n then Tab.val D n else -1 := Tab.look_out h
    rw [e]
    exact look_out a bn.length cap m n _ _ w hl h0 h1 (by omega) (hM.look h0 h1)

end Go.Proofs.Qxb6601966a
