/-
  The plain law of FnIndexableIsWidestWidthWithinValues: sums of products cut off at a bound. It speaks of no program.
-/
namespace Go.Proofs.Qxb6603132aDoor.Wd

/-- The product, and the sum, of j lengths from place st on. -/
def pr (l : Nat → Nat) (st : Nat) : Nat → Nat
  | 0 => 1
  | j + 1 => pr l st j * l (st + j)
def sm (l : Nat → Nat) (st : Nat) : Nat → Nat
  | 0 => 0
  | j + 1 => sm l st j + l (st + j)
/-- The product, cut off at L + 1 at every step. -/
def sp (L : Nat) (l : Nat → Nat) (st : Nat) : Nat → Nat
  | 0 => 1
  | j + 1 => min (sp L l st j * l (st + j)) (L + 1)
/-- The sum of the first r values of f. -/
def Sg (f : Nat → Nat) : Nat → Nat
  | 0 => 0
  | r + 1 => Sg f r + f r

theorem cut_mul (L a b : Nat) : min (min a (L + 1) * b) (L + 1) = min (a * b) (L + 1) := by
  rcases Nat.le_total a (L + 1) with h | h
  · rw [Nat.min_eq_left h]
  · rw [Nat.min_eq_right h]
    rcases Nat.eq_zero_or_pos b with rfl | hb
    · simp
    · have h1 : L + 1 ≤ (L + 1) * b := Nat.le_mul_of_pos_right _ hb
      have h2 : (L + 1) * b ≤ a * b := Nat.mul_le_mul_right b h
      rw [Nat.min_eq_right h1, Nat.min_eq_right (Nat.le_trans h1 h2)]

theorem sp_eq (L : Nat) (l : Nat → Nat) (st : Nat) : ∀ j, sp L l st j = min (pr l st j) (L + 1)
  | 0 => by simp [sp, pr]
  | j + 1 => by rw [sp, sp_eq L l st j, cut_mul, pr]
theorem sp_le (L : Nat) (l : Nat → Nat) (st j : Nat) : sp L l st j ≤ L + 1 := by rw [sp_eq]; exact Nat.min_le_right _ _

/-- a > lim / b says a * b > lim. -/
theorem cut_quo {a b lim : Nat} (hb : 0 < b) : lim / b < a ↔ lim < a * b := Nat.div_lt_iff_lt_mul hb

theorem pr_zero {l : Nat → Nat} {st i : Nat} (h : l (st + i) = 0) : ∀ {j}, i < j → pr l st j = 0
  | 0, hj => by omega
  | j + 1, hj => by
    rw [pr]
    by_cases e : i = j
    · rw [← e, h, Nat.mul_zero]
    · rw [pr_zero h (j := j) (by omega), Nat.zero_mul]

theorem sm_mono (l : Nat → Nat) (st : Nat) {i j : Nat} (h : i ≤ j) : sm l st i ≤ sm l st j := by
  induction j with
  | zero => rw [show i = 0 by omega]; exact Nat.le_refl _
  | succ j ih =>
    by_cases e : i = j + 1
    · rw [e]; exact Nat.le_refl _
    · rw [sm]
      have := ih (by omega)
      omega
theorem sm_add (l : Nat → Nat) (a : Nat) : ∀ b, sm l 0 (a + b) = sm l 0 a + sm l a b
  | 0 => by simp [sm]
  | b + 1 => by
    rw [← Nat.add_assoc, sm, sm_add l a b, sm, Nat.zero_add]
    omega

theorem Sg_congr {f g : Nat → Nat} : ∀ r, (∀ q, q < r → f q = g q) → Sg f r = Sg g r
  | 0, _ => rfl
  | r + 1, h => by rw [Sg, Sg, Sg_congr r (fun q hq => h q (by omega)), h r (by omega)]
theorem Sg_mono {f : Nat → Nat} {r s : Nat} (h : r ≤ s) : Sg f r ≤ Sg f s := by
  induction s with
  | zero => rw [show r = 0 by omega]; exact Nat.le_refl _
  | succ s ih =>
    by_cases e : r = s + 1
    · rw [e]; exact Nat.le_refl _
    · rw [Sg]
      have := ih (by omega)
      omega

/-- Cut off above V, a sum passes V just where the sum itself does. -/
theorem cut_sum {L V : Nat} (hV : V ≤ L) (f : Nat → Nat) : ∀ r, Sg (fun q => min (f q) (L + 1)) r ≤ V ↔ Sg f r ≤ V := by
  have h1 : ∀ r, Sg (fun q => min (f q) (L + 1)) r ≤ Sg f r := by
    intro r
    induction r with
    | zero => exact Nat.le_refl _
    | succ r ih =>
      rw [Sg, Sg]
      have := Nat.min_le_left (f r) (L + 1)
      omega
  intro r
  refine ⟨fun h => ?_, fun h => Nat.le_trans (h1 r) h⟩
  have h2 : Sg (fun q => min (f q) (L + 1)) r = Sg f r := by
    induction r with
    | zero => rfl
    | succ r ih =>
      rw [Sg] at h
      have h3 := ih (by omega)
      rw [Sg, Sg, h3]
      have h4 : f r ≤ L + 1 := by
        rcases Nat.le_total (f r) (L + 1) with h5 | h5
        · exact h5
        · rw [Nat.min_eq_right h5] at h
          omega
      rw [Nat.min_eq_left h4]
  rw [← h2]
  exact h

/-- The values, and the tuples cut off at L, of the first w keys of the members 0 .. r - 1 that have w lists: N lists, k to a member. -/
def cu (l : Nat → Nat) (N k w : Nat) (r : Nat) : Nat := Sg (fun q => if q * k + w ≤ N then sm l (q * k) w else 0) r
def tu (L : Nat) (l : Nat → Nat) (N k w : Nat) (r : Nat) : Nat := Sg (fun q => if q * k + w ≤ N then sp L l (q * k) w else 0) r

theorem cu_le {l : Nat → Nat} {N k w : Nat} (hw : w ≤ k) : ∀ r, cu l N k w r ≤ sm l 0 (min (r * k) N)
  | 0 => by simp [cu, Sg]
  | r + 1 => by
    have ih := cu_le (l := l) (N := N) hw r
    have hm : sm l 0 (min (r * k) N) ≤ sm l 0 (min ((r + 1) * k) N) := by
      apply sm_mono
      have : r * k ≤ (r + 1) * k := Nat.mul_le_mul_right k (by omega)
      omega
    unfold cu at ih ⊢
    rw [Sg]
    by_cases h : r * k + w ≤ N
    · rw [if_pos h]
      rw [Nat.min_eq_left (by omega)] at ih
      have h1 := sm_add l (r * k) w
      have h2 : sm l 0 (r * k + w) ≤ sm l 0 (min ((r + 1) * k) N) := by
        apply sm_mono
        rw [Nat.succ_mul]
        omega
      omega
    · rw [if_neg h]
      omega
theorem cu_total {l : Nat → Nat} {N k w : Nat} (hw : w ≤ k) (r : Nat) : cu l N k w r ≤ sm l 0 N :=
  Nat.le_trans (cu_le hw r) (sm_mono l 0 (Nat.min_le_right _ _))

/-- THE LAW: whatever the cut (from the values on), the same answer. -/
theorem cut_same {L L' : Nat} {l : Nat → Nat} {N k w r V : Nat} (h : V ≤ L) (h' : V ≤ L') : tu L l N k w r ≤ V ↔ tu L' l N k w r ≤ V := by
  have e : ∀ L, tu L l N k w r = Sg (fun q => min (if q * k + w ≤ N then pr l (q * k) w else 0) (L + 1)) r := by
    intro L
    unfold tu
    apply Sg_congr
    intro q _
    by_cases hq : q * k + w ≤ N
    · rw [if_pos hq, if_pos hq, sp_eq]
    · rw [if_neg hq, if_neg hq]
      simp
  rw [e L, e L', cut_sum h, cut_sum h']

/-- From k down to 2 the first that passes, else 1. -/
def scan (P : Nat → Bool) : Nat → Nat
  | 0 => 1
  | 1 => 1
  | w + 2 => if P (w + 2) then w + 2 else scan P (w + 1)
theorem scan_congr {P P' : Nat → Bool} : ∀ k, (∀ w, w ≤ k → P w = P' w) → scan P k = scan P' k
  | 0, _ => rfl
  | 1, _ => rfl
  | w + 2, h => by rw [scan, scan, h (w + 2) (Nat.le_refl _), scan_congr (w + 1) (fun v hv => h v (by omega))]
theorem scan_step {P : Nat → Bool} {k : Nat} (hk : 1 < k) : scan P k = if P k then k else scan P (k - 1) := by
  obtain ⟨w, rfl⟩ : ∃ w, k = w + 2 := ⟨k - 2, by omega⟩
  rfl
theorem scan_range (P : Nat → Bool) : ∀ k, 1 ≤ scan P k ∧ (1 ≤ k → scan P k ≤ k)
  | 0 => ⟨Nat.le_refl _, fun h => by omega⟩
  | 1 => ⟨Nat.le_refl _, fun _ => Nat.le_refl _⟩
  | w + 2 => by
    rw [scan]
    have := scan_range P (w + 1)
    split
    · omega
    · omega
/-- What passes at the width that was found. -/
theorem scan_holds (P : Nat → Bool) : ∀ k, 1 < scan P k → P (scan P k) = true
  | 0, h => by simp [scan] at h
  | 1, h => by simp [scan] at h
  | w + 2, h => by
    rw [scan] at h ⊢
    by_cases e : P (w + 2) = true
    · rw [if_pos e]; exact e
    · rw [if_neg e] at h ⊢
      exact scan_holds P (w + 1) h

end Go.Proofs.Qxb6603132aDoor.Wd
