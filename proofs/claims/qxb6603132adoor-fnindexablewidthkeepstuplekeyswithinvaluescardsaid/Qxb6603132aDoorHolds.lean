/-
  zzWidthHolds.
-/
import Derived.Test.Qxb6603132aDoorSat
namespace Go.Proofs.Qxb6603132aDoor
open Go Go.RowKit

namespace Wd
theorem Sg_tail {f : Nat → Nat} {r s : Nat} (h : r ≤ s) (hz : ∀ q, r ≤ q → q < s → f q = 0) : Sg f r = Sg f s := by
  induction s with
  | zero => rw [show r = 0 by omega]
  | succ s ih =>
    by_cases e : r = s + 1
    · rw [e]
    · rw [Sg, ← ih (by omega) (fun q h1 h2 => hz q h1 (by omega)), hz s (by omega) (by omega)]
      rfl
theorem Sg_same {f : Nat → Nat} {r s : Nat} (h1 : ∀ q, r ≤ q → f q = 0) (h2 : ∀ q, s ≤ q → f q = 0) : Sg f r = Sg f s := by
  rcases Nat.le_total r s with h | h
  · exact Sg_tail h (fun q hq _ => h1 q hq)
  · exact (Sg_tail h (fun q hq _ => h2 q hq)).symm
theorem past {N k w r q : Nat} (hr : N ≤ r * k) (hw : 0 < w) (hq : r ≤ q) : ¬ q * k + w ≤ N := by
  have := Nat.mul_le_mul_right k hq
  omega
theorem cu_end {l : Nat → Nat} {N k w r : Nat} (hk : 1 ≤ k) (hw : 0 < w) (hr : N ≤ r * k) : cu l N k w r = cu l N k w N :=
  Sg_same (fun _ hq => if_neg (past hr hw hq)) (fun _ hq => if_neg (past (Nat.le_mul_of_pos_right N hk) hw hq))
theorem tu_end {L : Nat} {l : Nat → Nat} {N k w r : Nat} (hk : 1 ≤ k) (hw : 0 < w) (hr : N ≤ r * k) : tu L l N k w r = tu L l N k w N :=
  Sg_same (fun _ hq => if_neg (past hr hw hq)) (fun _ hq => if_neg (past (Nat.le_mul_of_pos_right N hk) hw hq))
/-- zzWidthHolds. -/
def wh (l : Nat → Nat) (N k w : Nat) : Bool := decide (tu (cu l N k w N) l N k w N ≤ cu l N k w N)
theorem wh_yes {l : Nat → Nat} {N k w r V : Nat} (hk : 1 ≤ k) (hw : 0 < w) (hr : N ≤ r * k) (hV : V = cu l N k w N) (h : tu V l N k w r ≤ V) : wh l N k w = true := by
  unfold wh
  rw [← hV, ← tu_end hk hw hr]
  exact decide_eq_true h
theorem wh_no {l : Nat → Nat} {N k w r V : Nat} (hr : r ≤ N) (hV : V = cu l N k w N) (h : ¬ tu V l N k w r ≤ V) : wh l N k w = false := by
  unfold wh
  rw [← hV]
  refine decide_eq_false (fun h' => h (Nat.le_trans (Sg_mono hr) h'))
theorem sm_within {l : Nat → Nat} {N st i : Nat} (h : st + i ≤ N) : sm l st i ≤ sm l 0 N := by
  have h1 := sm_add l st i
  have h2 := sm_mono l 0 h
  omega
end Wd

/-- A slice of slices, told by their lengths. -/
def LRd (B : Nat) (w : World) (ag : Option Addr) (N : Nat) (l : Nat → Nat) : Prop :=
  0 < N → ∃ b off, ag = some ⟨b, off, none⟩ ∧ b < B ∧ ∀ i, i < N → ∃ a c, w.cell? ⟨b, off + i, none⟩ = some (.slice a (l i) c)
theorem LRd.at {B : Nat} {w : World} {ag : Option Addr} {N i : Nat} {l : Nat → Nat} (h : LRd B w ag N l) (hi : i < N) : ∃ b off, ag = some ⟨b, off, none⟩ ∧ b < B ∧ ∃ a c, w.cell? ⟨b, off + i, none⟩ = some (.slice a (l i) c) := by
  obtain ⟨b, off, e, hb, hc⟩ := h (by omega)
  exact ⟨b, off, e, hb, hc i hi⟩
theorem LRd.below {B : Nat} {w w' : World} {ag : Option Addr} {N : Nat} {l : Nat → Nat} (h : LRd B w ag N l) (hb : Below B w w') : LRd B w' ag N l := by
  intro hp
  obtain ⟨b, off, e, hlt, hc⟩ := h hp
  refine ⟨b, off, e, hlt, fun i hi => ?_⟩
  obtain ⟨a, c, h1⟩ := hc i hi
  exact ⟨a, c, (hb.cell (by exact hlt)).trans h1⟩
theorem LRd.mono {B B' : Nat} {w : World} {ag : Option Addr} {N : Nat} {l : Nat → Nat} (h : LRd B w ag N l) (hb : B ≤ B') : LRd B' w ag N l := by
  intro hp
  obtain ⟨b, off, e, hlt, hc⟩ := h hp
  exact ⟨b, off, e, by omega, hc⟩

/-- What is known of the lengths. -/
structure LOk (l : Nat → Nat) (N k : Nat) : Prop where
  n : N ≤ 65536
  k1 : 1 ≤ k
  k : k ≤ 65536
  tot : Wd.sm l 0 N ≤ 32768

theorem LOk.len {l : Nat → Nat} {N k i : Nat} (h : LOk l N k) (hi : i < N) : l i ≤ 32768 := by
  have h1 := Wd.sm_within (l := l) (N := N) (st := i) (i := 1) (by omega)
  have h2 := h.tot
  simp only [Wd.sm, Nat.add_zero, Nat.zero_add] at h1
  omega

end Go.Proofs.Qxb6603132aDoor
