/-
  slices.Chunk at [][]string: its closure's contract.
-/
import Derived.Test.Qxb6603132aDoorClone
import Derived.RangeFuncNested
import Derived.RangeFuncBound
import Derived.RangeFuncCalls
import Derived.RangeFuncLeaves
import Derived.RangeFuncFrom
import Derived.Shelf.Abstract
import Derived.Shelf.RegionOpen
import Derived.WalkKit
import Derived.OwnWalkIn
import Derived.TacticsInMore
import Derived.LoopNIn
import Derived.LoopIn
namespace Go.Proofs.Qxb6603132aDoor
open Go Go.RowKit Go.Shelf

attribute [local go_sem] Oper.semAt_some

/-- The q-th chunk of a slice of N elements at ⟨b, off⟩, k to a chunk. -/
def chV (b off N k q : Nat) : Value := .slice (some ⟨b, off + q * k, none⟩) (min k (N - q * k)) (min k (N - q * k))

/-- What a round must keep for the iterator: its two boxes. -/
def KC (B1 B2 : Nat) (A B : World) : Prop := B.cell? ⟨B1, 0, none⟩ = A.cell? ⟨B1, 0, none⟩ ∧ B.cell? ⟨B2, 0, none⟩ = A.cell? ⟨B2, 0, none⟩
theorem KC.trans {B1 B2 : Nat} {A B C : World} (h : KC B1 B2 A B) (k : KC B1 B2 B C) : KC B1 B2 A C := ⟨k.1.trans h.1, k.2.trans h.2⟩

theorem chunk_calls (a : Option Addr) (N c k : Nat) (w : World) (hk : 1 ≤ k) (hk2 : k ≤ 65536) :
    Calls Tryd.prog 19 #[.slice a N c, .int .i64 (k : Int)] w fun e w' => e = .returned (.func (.func 21) #[] #[.pointer (some ⟨w.heap.size, 0, none⟩), .pointer (some ⟨w.heap.size + 1, 0, none⟩)]) ∧ w' = (w.alloc (.cells #[.slice a N c] 22)).alloc (.cells #[.int .i64 (k : Int)] 3) := by
  have h1 : ¬ (k : Int) < 1 := by omega
  have h1' : (1 : Int) ≤ (k : Int) := by omega
  go_enter Tryd.func19, Tryd.ntmps19
  go_wp2
  go_ret
  exact ⟨rfl, rfl⟩

set_option maxRecDepth 100000 in
set_option maxHeartbeats 2000000 in
/-- The closure, over a slice that is not nil. -/
theorem chunk1_in (F : Fence) (n : Nat) (h21 : F.fn 21) (hro : F.round = none) (hn : 1 ≤ n) (l B1 B2 b off N c k R : Nat) (hN : N ≤ 65536) (hNc : N ≤ c) (hk : 1 ≤ k) (hk2 : k ≤ 65536) (hR : ∀ q, q < R ↔ q * k < N)
    (J Jx : List Nat → World → Prop)
    (hY : ∀ pre x W, J pre W → pre.length < R → YieldAt F (n - 1) Tryd.prog l #[chV b off N k x] W fun e W' =>
      (e = .returned (.bool true) ∧ J (pre ++ [x]) W' ∧ KC B1 B2 W W') ∨ (e = .returned (.bool false) ∧ Jx (pre ++ [x]) W'))
    (W : World) (hB1 : W.cell? ⟨B1, 0, none⟩ = some (.slice (some ⟨b, off, none⟩) N c)) (hB2 : W.cell? ⟨B2, 0, none⟩ = some (.int .i64 (k : Int))) (hJd : ∀ pre A, J pre A → J pre A.drew) (h0 : J [] W) :
    CallsIn F n Tryd.prog 21 #[.func (.yield l) #[] #[], .pointer (some ⟨B1, 0, none⟩), .pointer (some ⟨B2, 0, none⟩)] W fun e W' => (∃ v, e = .returned v) ∧
      ((∃ ys, ys = List.range R ∧ J ys W') ∨ (∃ pre, True ∧ Jx pre W')) := by
  refine callsIn_of_wp Tryd.func21 rfl h21 ?_ hro
  simp only [Tryd.ntmps21, List.size_toArray, List.length_cons, List.length_nil, Nat.reduceAdd, Nat.reduceSub, Array.replicate_succ, Array.replicate_zero, List.push_toArray, List.append_toArray, List.nil_append, List.cons_append]
  have HR := hideS hR
  have HY := hideS hY
  have HJd := hideS hJd
  clear hR hY hJd
  gi_wp2
  gi_loopw [4] (fun i wr => ∃ q st : Nat, Hid (st = q * k) ∧ st ≤ N + k ∧ q ≤ R ∧ i = .int .i64 st ∧ J (List.range q) wr ∧ KC B1 B2 W wr)
    (fun i _ => N + k - (intOf i).toNat)
  case atStart => exact ⟨0, 0, hideS (by simp), Nat.zero_le _, Nat.zero_le _, rfl, h0, ⟨rfl, rfl⟩⟩
  case round =>
    obtain ⟨q, st, Hst, hst, hqR, rfl, hJs, hnx⟩ := hrel
    have c1 := hnx.1.trans hB1
    have c2 := hnx.2.trans hB2
    have Hnx := hideS hnx
    clear hnx
    by_cases hlt : st < N
    · have hltI : (st : Int) < (N : Int) := by omega
      have HJs := hideS hJs
      have hq : q < R := (HR.out q).2 (by rw [← Hst.out]; exact hlt)
      clear hJs hB1 hB2
      gi_wp2_with fail
      have hst2 : (st : Int) ≤ (c : Int) := by omega
      have hst3 : (st : Int) ≤ (N : Int) := by omega
      obtain ⟨m, hm⟩ : ∃ m, m = min k (N - st) := ⟨_, rfl⟩
      have hmin : (if N - st < k then ((N - st : Nat) : Int) else (k : Int)) = (m : Int) := by
        split <;> omega
      have hm0 : ¬ m = 0 := by omega
      have hmI : (st : Int) + (m : Int) ≤ (c : Int) := by omega
      have hmN : m ≤ 65536 := by omega
      have hmI2 : (st : Int) ≤ (st : Int) + (m : Int) := by omega
      have hch : chV b off N k q = .slice (some ⟨b, off + st, none⟩) m m := by unfold chV; rw [← Hst.out, ← hm]
      have hy0 := HY.out (List.range q) q wr.drew (HJd.out _ _ HJs.out) (by simpa using hq)
      rw [hch] at hy0
      obtain ⟨fn, tmps, assign, body, hy, hR⟩ := hy0
      have Hm := hideS hm
      clear hm hch HJs
      gi_region
      all_goals
        gi_wp2
        refine hR.mono ?_
        rintro e W3 (⟨rfl, hJ3, hk3⟩ | ⟨rfl, hJx3⟩)
        · have hk4 : KC B1 B2 wr W3 := hk3
          have c2' := hk4.2.trans c2
          have Hnx3 := hideS (Hnx.out.trans hk4)
          rw [← List.range_succ] at hJ3
          clear c1 c2 hk3 hk4 hR hy
          gi_wp2
          go_roundw
          case rel => exact ⟨q + 1, st + k, hideS (by rw [Nat.succ_mul, ← Hst.out]), by omega, by omega, by go_num, hJ3, Hnx3.out⟩
          case measure => simp [intOf]; omega
        · clear c1 c2 hR hy
          gi_wp2
          refine bodyPost_ret (results_none rfl _ _ _) rfl ?_
          exact ⟨⟨_, rfl⟩, .inr ⟨_, trivial, hJx3⟩⟩
    · have hltI : ¬ (st : Int) < (N : Int) := by omega
      have hqe : q = R := by
        have h1 := (HR.out q).1
        have h2 := Hst.out
        rcases Nat.lt_or_ge q R with h | h
        · have := h1 h
          omega
        · omega
      subst hqe
      clear hB1 hB2
      gi_wp2
      go_end0
      first
        | exact ⟨⟨_, rfl⟩, .inl ⟨_, rfl, hJs⟩⟩
        | exact ⟨⟨_, rfl⟩, .inl hJs⟩

set_option maxRecDepth 100000 in
set_option maxHeartbeats 2000000 in
/-- .. at a slice without elements: no round. -/
theorem chunk0_in (F : Fence) (n : Nat) (h21 : F.fn 21) (hro : F.round = none) (l B1 B2 c : Nat) (ag : Option Addr) (J Jx : List Nat → World → Prop) (W : World) (hB1 : W.cell? ⟨B1, 0, none⟩ = some (.slice ag 0 c)) (h0 : J [] W) :
    CallsIn F n Tryd.prog 21 #[.func (.yield l) #[] #[], .pointer (some ⟨B1, 0, none⟩), .pointer (some ⟨B2, 0, none⟩)] W fun e W' => (∃ v, e = .returned v) ∧ ((∃ ys, ys = List.range 0 ∧ J ys W') ∨ (∃ pre, True ∧ Jx pre W')) := by
  refine callsIn_of_wp Tryd.func21 rfl h21 ?_ hro
  simp only [Tryd.ntmps21, List.size_toArray, List.length_cons, List.length_nil, Nat.reduceAdd, Nat.reduceSub, Array.replicate_succ, Array.replicate_zero, List.push_toArray, List.append_toArray, List.nil_append, List.cons_append]
  gi_wp2
  gi_loopw [4] (fun i wr => i = .int .i64 0 ∧ wr = W) (fun _ _ => 0)
  case atStart => exact ⟨rfl, rfl⟩
  case round =>
    obtain ⟨rfl, rfl⟩ := hrel
    gi_wp2
    go_end0
    first
      | exact ⟨⟨_, rfl⟩, .inl ⟨_, rfl, h0⟩⟩
      | exact ⟨⟨_, rfl⟩, .inl h0⟩

theorem chunk_stops (F : Fence) (n : Nat) (h21 : F.fn 21) (hro : F.round = none) (hn : 1 ≤ n) (B1 B2 b off N c k R : Nat) (ag : Option Addr) (hag : 0 < N → ag = some ⟨b, off, none⟩) (hN : N ≤ 65536) (hNc : N ≤ c) (hk : 1 ≤ k) (hk2 : k ≤ 65536) (hR : ∀ q, q < R ↔ q * k < N) (w : World) (h1 : B1 < w.heap.size) (h2 : B2 < w.heap.size)
    (hB1 : w.cell? ⟨B1, 0, none⟩ = some (.slice ag N c)) (hB2 : w.cell? ⟨B2, 0, none⟩ = some (.int .i64 (k : Int))) :
    SeqStopsK F n Tryd.prog 21 #[.pointer (some ⟨B1, 0, none⟩), .pointer (some ⟨B2, 0, none⟩)] (fun q : Nat => #[chV b off N k q]) (KC B1 B2) (fun ys => ys = List.range R) (fun _ => True) R w := fun l J Jx W hW hJ _ hY h0 => by
  have c1 := (hW.cell (p := ⟨B1, 0, none⟩) h1).trans hB1
  have c2 := (hW.cell (p := ⟨B2, 0, none⟩) h2).trans hB2
  by_cases hp : 0 < N
  · obtain rfl := hag hp
    exact chunk1_in F n h21 hro hn l B1 B2 b off N c k R hN hNc hk hk2 hR J Jx hY W c1 c2 (fun pre A hA => hJ pre A A.drew none hA ⟨rfl, rfl, rfl, Nat.le_refl _, fun _ _ _ => rfl⟩ (fun r e => by cases e)) h0
  · obtain rfl : N = 0 := by omega
    obtain rfl : R = 0 := by
      rcases Nat.eq_zero_or_pos R with h | h
      · exact h
      · have := (hR 0).1 h
        omega
    exact chunk0_in F n h21 hro l B1 B2 c ag J Jx W c1 h0

end Go.Proofs.Qxb6603132aDoor
