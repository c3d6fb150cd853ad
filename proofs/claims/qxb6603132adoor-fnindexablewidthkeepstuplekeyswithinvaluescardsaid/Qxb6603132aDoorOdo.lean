/-
  Counting combinations: the last list runs fastest. It speaks of no program.
-/
import Derived.Test.Qxb6603132aDoorWide
namespace Go.Proofs.Qxb6603132aDoor.Wd

/-- The number of the combination whose places are d. -/
def val (l d : Nat → Nat) : Nat → Nat
  | 0 => 0
  | n + 1 => val l d n * l n + d n

theorem pr_left (l : Nat → Nat) (j : Nat) : ∀ c, pr l j (c + 1) = l j * pr l (j + 1) c
  | 0 => by simp [pr]
  | c + 1 => by
    rw [pr, pr_left l j c, pr, Nat.mul_assoc, show j + (c + 1) = j + 1 + c by omega]
theorem pr_pos {l : Nat → Nat} {st : Nat} : ∀ {n}, (∀ i, i < n → 0 < l (st + i)) → 0 < pr l st n
  | 0, _ => by simp [pr]
  | n + 1, h => by
    rw [pr]
    exact Nat.mul_pos (pr_pos (fun i hi => h i (by omega))) (h n (by omega))
theorem pr_mono {l : Nat → Nat} {st n : Nat} (h : ∀ i, i < n → 0 < l (st + i)) {t : Nat} (ht : t ≤ n) : pr l st t ≤ pr l st n := by
  induction n with
  | zero => rw [show t = 0 by omega]; exact Nat.le_refl _
  | succ n ih =>
    by_cases e : t = n + 1
    · rw [e]; exact Nat.le_refl _
    · rw [pr]
      exact Nat.le_trans (ih (fun i hi => h i (by omega)) (by omega)) (Nat.le_mul_of_pos_right _ (h n (by omega)))
theorem pr_shift (l : Nat → Nat) (st : Nat) : ∀ n, pr (fun i => l (st + i)) 0 n = pr l st n
  | 0 => rfl
  | n + 1 => by rw [pr, pr, pr_shift l st n, Nat.zero_add]

theorem val_congr {l d d' : Nat → Nat} : ∀ n, (∀ i, i < n → d i = d' i) → val l d n = val l d' n
  | 0, _ => rfl
  | n + 1, h => by rw [val, val, val_congr n (fun i hi => h i (by omega)), h n (by omega)]
theorem val_lt {l d : Nat → Nat} : ∀ n, (∀ i, i < n → d i < l i) → val l d n < pr l 0 n
  | 0, _ => by simp [val, pr]
  | n + 1, h => by
    rw [val, pr, Nat.zero_add]
    have h1 := val_lt n (fun i hi => h i (by omega))
    have h2 := h n (by omega)
    have h3 : (val l d n + 1) * l n ≤ pr l 0 n * l n := Nat.mul_le_mul_right _ h1
    rw [Nat.succ_mul] at h3
    omega
theorem val_zero {l d : Nat → Nat} {j : Nat} : ∀ c, (∀ i, j ≤ i → i < j + c → d i = 0) → val l d (j + c) = val l d j * pr l j c
  | 0, _ => by simp [pr]
  | c + 1, h => by
    rw [← Nat.add_assoc, val, val_zero c (fun i h1 h2 => h i h1 (by omega)), h (j + c) (by omega) (by omega), pr, Nat.add_zero, Nat.mul_assoc]

/-- What holds while the places are wound on: those from j on were at their ends. -/
def Wind (l d : Nat → Nat) (n j : Nat) : Prop := val l d n + 1 = (val l d j + 1) * pr l j (n - j)
theorem Wind.start (l d : Nat → Nat) (n : Nat) : Wind l d n n := by simp [Wind, pr]
theorem Wind.next {l d : Nat → Nat} {n j : Nat} (h : Wind l d n (j + 1)) (hj : j < n) (he : d j + 1 = l j) : Wind l d n j := by
  unfold Wind at h ⊢
  rw [h, show n - j = (n - (j + 1)) + 1 by omega, pr_left, ← Nat.mul_assoc]
  congr 1
  rw [val, Nat.succ_mul]
  omega
theorem Wind.last {l d : Nat → Nat} {n : Nat} (h : Wind l d n 0) : val l d n + 1 = pr l 0 n := by
  unfold Wind at h
  simpa [val] using h
theorem Wind.stop {l d : Nat → Nat} {n j : Nat} (h : Wind l d n (j + 1)) (hj : j < n) : val l (fun i => if i = j then d j + 1 else if i < j + 1 then d i else 0) n = val l d n + 1 := by
  unfold Wind at h
  have h1 := val_zero (l := l) (d := fun i => if i = j then d j + 1 else if i < j + 1 then d i else 0) (j := j + 1) (n - (j + 1)) (fun i h1 h2 => by
    show (if i = j then d j + 1 else if i < j + 1 then d i else 0) = 0
    rw [if_neg (by omega), if_neg (by omega)])
  rw [show j + 1 + (n - (j + 1)) = n by omega] at h1
  rw [h1, h]
  congr 1
  rw [val, val, val_congr (d' := d) j (fun i hi => by
    show (if i = j then d j + 1 else if i < j + 1 then d i else 0) = d i
    rw [if_neg (by omega), if_pos (by omega)])]
  show _ + (if j = j then d j + 1 else if j < j + 1 then d j else 0) = _
  rw [if_pos rfl]
  omega

end Go.Proofs.Qxb6603132aDoor.Wd
