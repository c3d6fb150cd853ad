/-
  The sums over the chunks that have come. It speaks of no program.
-/
import Derived.Test.Qxb6603132aDoorWide
namespace Go.Proofs.Qxb6603132aDoor.Wd

/-- The tuples, and the values, of width v over the chunks pre. -/
def tuL (L : Nat) (l : Nat → Nat) (N k v : Nat) : List Nat → Nat
  | [] => 0
  | q :: r => (if q * k + v ≤ N then sp L l (q * k) v else 0) + tuL L l N k v r
def cuL (l : Nat → Nat) (N k v : Nat) : List Nat → Nat
  | [] => 0
  | q :: r => (if q * k + v ≤ N then sm l (q * k) v else 0) + cuL l N k v r

theorem tuL_snoc (L : Nat) (l : Nat → Nat) (N k v q : Nat) : ∀ pre, tuL L l N k v (pre ++ [q]) = tuL L l N k v pre + (if q * k + v ≤ N then sp L l (q * k) v else 0)
  | [] => by simp [tuL]
  | p :: r => by
    rw [List.cons_append, tuL, tuL, tuL_snoc L l N k v q r]
    omega
theorem cuL_snoc (l : Nat → Nat) (N k v q : Nat) : ∀ pre, cuL l N k v (pre ++ [q]) = cuL l N k v pre + (if q * k + v ≤ N then sm l (q * k) v else 0)
  | [] => by simp [cuL]
  | p :: r => by
    rw [List.cons_append, cuL, cuL, cuL_snoc l N k v q r]
    omega
theorem tuL_range (L : Nat) (l : Nat → Nat) (N k v : Nat) : ∀ r, tuL L l N k v (List.range r) = tu L l N k v r
  | 0 => by simp [tuL, tu, Sg]
  | r + 1 => by
    rw [List.range_succ, tuL_snoc, tuL_range L l N k v r]
    unfold tu
    rw [Sg]
theorem cuL_range (l : Nat → Nat) (N k v : Nat) : ∀ r, cuL l N k v (List.range r) = cu l N k v r
  | 0 => by simp [cuL, cu, Sg]
  | r + 1 => by
    rw [List.range_succ, cuL_snoc, cuL_range l N k v r]
    unfold cu
    rw [Sg]
theorem tuL_le (L : Nat) (l : Nat → Nat) (N k v : Nat) : ∀ pre, tuL L l N k v pre ≤ pre.length * (L + 1)
  | [] => by simp [tuL]
  | q :: r => by
    have h1 := tuL_le L l N k v r
    have h2 := sp_le L l (q * k) v
    rw [tuL, List.length_cons, Nat.succ_mul]
    split <;> omega
theorem sm_in {l : Nat → Nat} {N st i : Nat} (h : st + i ≤ N) : sm l st i ≤ sm l 0 N := by
  have h1 := sm_add l st i
  have h2 := sm_mono l 0 h
  omega
theorem cuL_le (l : Nat → Nat) (N k v : Nat) : ∀ pre, cuL l N k v pre ≤ pre.length * sm l 0 N
  | [] => by simp [cuL]
  | q :: r => by
    have h1 := cuL_le l N k v r
    rw [cuL, List.length_cons, Nat.succ_mul]
    by_cases h : q * k + v ≤ N
    · rw [if_pos h]
      have := sm_in (l := l) h
      omega
    · rw [if_neg h]
      omega

end Go.Proofs.Qxb6603132aDoor.Wd
