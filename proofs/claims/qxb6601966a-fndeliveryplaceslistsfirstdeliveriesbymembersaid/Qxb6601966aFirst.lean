/-
  The plain law of first deliveries and of the places they take: no Go in sight.
-/
import Derived.Below
namespace Go.Proofs.Qxb6601966a.Dp

/-- Where x stands first in L; -1 where it does not. -/
def fst (L : List Int) (x : Int) : Int := if x ∈ L then (L.idxOf x : Int) else -1

theorem fst_mem {L : List Int} {x : Int} (h : x ∈ L) : fst L x = (L.idxOf x : Int) := by unfold fst; rw [if_pos h]
theorem fst_not {L : List Int} {x : Int} (h : x ∉ L) : fst L x = -1 := by unfold fst; rw [if_neg h]

theorem mem_take_succ {L : List Int} {a : Nat} (h : a < L.length) (x : Int) : x ∈ L.take (a + 1) ↔ x ∈ L.take a ∨ x = L.getD a 0 := by
  rw [List.take_add_one, List.getElem?_eq_getElem h, List.mem_append]
  simp [List.getElem?_eq_getElem h]

theorem idxOf_le {L : List Int} : ∀ {a : Nat}, a < L.length → L.idxOf (L.getD a 0) ≤ a := by
  induction L with
  | nil => intro a h; simp at h
  | cons y r ih =>
    intro a h
    cases a with
    | zero => simp
    | succ a =>
      have := ih (a := a) (by simpa using h)
      rw [List.idxOf_cons]
      simp only [List.getD_cons_succ]
      cases hb : (y == r.getD a 0)
      · simp only [cond_false]; omega
      · simp only [cond_true]; omega

theorem idxOf_mem_take {L : List Int} : ∀ {a : Nat} {x : Int}, x ∈ L.take a → L.idxOf x < a := by
  induction L with
  | nil => intro a x h; simp at h
  | cons y r ih =>
    intro a x h
    cases a with
    | zero => simp at h
    | succ a =>
      rw [List.take_succ_cons, List.mem_cons] at h
      rw [List.idxOf_cons]
      by_cases e : y = x
      · simp [e]
      · have h' : x ∈ r.take a := by rcases h with h | h; exact absurd h.symm e; exact h
        have := ih h'
        have hb : (y == x) = false := by simpa using e
        rw [hb]
        simp only [cond_false]
        omega

/-- The element at a is a first one just if it does not stand ahead of a. -/
theorem first_iff {L : List Int} {a : Nat} (h : a < L.length) : L.idxOf (L.getD a 0) = a ↔ L.getD a 0 ∉ L.take a := by
  have h1 := idxOf_le h
  constructor
  · intro e hm
    have := idxOf_mem_take hm
    omega
  · intro hn
    rcases Nat.lt_or_ge (L.idxOf (L.getD a 0)) a with h2 | h2
    · exfalso
      apply hn
      have hm : L.getD a 0 ∈ L := by simp [List.getElem?_eq_getElem h]
      have h3 := List.getElem_idxOf (List.idxOf_lt_length_of_mem hm)
      exact List.mem_take_iff_getElem.2 ⟨_, by have := List.idxOf_lt_length_of_mem hm; omega, h3⟩
    · omega

theorem getD_mem {L : List Int} {a : Nat} (h : a < L.length) : L.getD a 0 ∈ L := by simp [List.getElem?_eq_getElem h]

/-- The places of x among the first k logs. -/
def Fk (Ls : Nat → List Int) : Nat → Int → List (Int × Int)
  | 0, _ => []
  | k + 1, x => Fk Ls k x ++ (if x ∈ Ls k then [((k : Int), ((Ls k).idxOf x : Int))] else [])
/-- .. and the first a entries of log k. -/
def Fka (Ls : Nat → List Int) (k a : Nat) (x : Int) : List (Int × Int) := Fk Ls k x ++ (if x ∈ (Ls k).take a then [((k : Int), ((Ls k).idxOf x : Int))] else [])

theorem Fka_zero (Ls : Nat → List Int) (k : Nat) (x : Int) : Fka Ls k 0 x = Fk Ls k x := by simp [Fka]
theorem Fka_end (Ls : Nat → List Int) (k a : Nat) (h : (Ls k).length ≤ a) (x : Int) : Fka Ls k a x = Fk Ls (k + 1) x := by
  rw [Fka, Fk, List.take_of_length_le h]
theorem Fka_old (Ls : Nat → List Int) (k a : Nat) (h : a < (Ls k).length) (hm : (Ls k).getD a 0 ∈ (Ls k).take a) (x : Int) : Fka Ls k (a + 1) x = Fka Ls k a x := by
  unfold Fka
  have : x ∈ (Ls k).take (a + 1) ↔ x ∈ (Ls k).take a := by
    rw [mem_take_succ h]
    constructor
    · rintro (h | h)
      · exact h
      · rw [h]; exact hm
    · exact .inl
  by_cases hx : x ∈ (Ls k).take a
  · rw [if_pos hx, if_pos (this.2 hx)]
  · rw [if_neg hx, if_neg (fun h => hx (this.1 h))]
theorem Fka_new (Ls : Nat → List Int) (k a : Nat) (h : a < (Ls k).length) (hm : (Ls k).getD a 0 ∉ (Ls k).take a) : Fka Ls k (a + 1) ((Ls k).getD a 0) = Fka Ls k a ((Ls k).getD a 0) ++ [((k : Int), (a : Int))] := by
  unfold Fka
  rw [if_neg hm, if_pos ((mem_take_succ h _).2 (.inr rfl)), (first_iff h).2 hm]
  simp
theorem Fka_other (Ls : Nat → List Int) (k a : Nat) (h : a < (Ls k).length) (x : Int) (hx : x ≠ (Ls k).getD a 0) : Fka Ls k (a + 1) x = Fka Ls k a x := by
  unfold Fka
  have : x ∈ (Ls k).take (a + 1) ↔ x ∈ (Ls k).take a := by
    rw [mem_take_succ h]
    exact ⟨fun h => h.elim id (fun h => absurd h hx), .inl⟩
  by_cases hy : x ∈ (Ls k).take a
  · rw [if_pos hy, if_pos (this.2 hy)]
  · rw [if_neg hy, if_neg (fun h => hy (this.1 h))]

theorem Fk_prefix (Ls : Nat → List Int) (x : Int) (k : Nat) : ∀ d, ∃ t, Fk Ls (k + d) x = Fk Ls k x ++ t
  | 0 => ⟨[], by simp⟩
  | d + 1 => by
    obtain ⟨t, ht⟩ := Fk_prefix Ls x k d
    refine ⟨t ++ (if x ∈ Ls (k + d) then [(((k + d : Nat) : Int), ((Ls (k + d)).idxOf x : Int))] else []), ?_⟩
    have e : Fk Ls (k + (d + 1)) x = Fk Ls (k + d) x ++ (if x ∈ Ls (k + d) then [(((k + d : Nat) : Int), ((Ls (k + d)).idxOf x : Int))] else []) := rfl
    rw [e, ht, List.append_assoc]
theorem Fka_prefix (Ls : Nat → List Int) (x : Int) (k a : Nat) : ∃ t, Fk Ls (k + 1) x = Fka Ls k a x ++ t := by
  by_cases h : x ∈ (Ls k).take a
  · refine ⟨[], ?_⟩
    rw [Fk, Fka, if_pos h, if_pos (List.mem_of_mem_take h), List.append_nil]
  · refine ⟨if x ∈ Ls k then [((k : Int), ((Ls k).idxOf x : Int))] else [], ?_⟩
    rw [Fk, Fka, if_neg h, List.append_nil]
/-- What stands at the first k logs and a entries stands in the end. -/
theorem Fka_whole (Ls : Nat → List Int) (x : Int) (k a K : Nat) (hk : k < K) : ∃ t, Fk Ls K x = Fka Ls k a x ++ t := by
  obtain ⟨t, ht⟩ := Fka_prefix Ls x k a
  obtain ⟨u, hu⟩ := Fk_prefix Ls x (k + 1) (K - (k + 1))
  rw [show k + 1 + (K - (k + 1)) = K by omega] at hu
  exact ⟨t ++ u, by rw [hu, ht, List.append_assoc]⟩
theorem Fka_le (Ls : Nat → List Int) (x : Int) (k a K : Nat) (hk : k < K) : (Fka Ls k a x).length ≤ (Fk Ls K x).length := by
  obtain ⟨t, ht⟩ := Fka_whole Ls x k a K hk
  rw [ht]; simp
/-- A first entry that is about to be placed has room. -/
theorem Fka_lt (Ls : Nat → List Int) (k a K : Nat) (hk : k < K) (h : a < (Ls k).length) (hm : (Ls k).getD a 0 ∉ (Ls k).take a) : (Fka Ls k a ((Ls k).getD a 0)).length < (Fk Ls K ((Ls k).getD a 0)).length := by
  have h1 := Fka_le Ls ((Ls k).getD a 0) k (a + 1) K hk
  rw [Fka_new Ls k a h hm, List.length_append, List.length_singleton] at h1
  omega
theorem Fka_get (Ls : Nat → List Int) (x : Int) (k a K : Nat) (hk : k < K) (j : Nat) (hj : j < (Fka Ls k a x).length) : (Fk Ls K x).getD j (0, 0) = (Fka Ls k a x).getD j (0, 0) := by
  obtain ⟨t, ht⟩ := Fka_whole Ls x k a K hk
  rw [ht, List.getD_eq_getElem?_getD, List.getElem?_append_left hj, ← List.getD_eq_getElem?_getD]
theorem Fk_bound (Ls : Nat → List Int) (x : Int) : ∀ k, (Fk Ls k x).length ≤ k
  | 0 => Nat.le_refl _
  | k + 1 => by
    have := Fk_bound Ls x k
    rw [Fk, List.length_append]
    split <;> simp <;> omega
/-- Each place is a log's number and a position in it. -/
theorem Fk_congr {Ls Ls' : Nat → List Int} (x : Int) : ∀ k, (∀ i, i < k → (x ∈ Ls i ↔ x ∈ Ls' i) ∧ (x ∈ Ls i → (Ls i).idxOf x = (Ls' i).idxOf x)) → Fk Ls k x = Fk Ls' k x
  | 0, _ => rfl
  | k + 1, h => by
    rw [Fk, Fk, Fk_congr x k (fun i hi => h i (by omega))]
    obtain ⟨h1, h2⟩ := h k (by omega)
    congr 1
    by_cases hx : x ∈ Ls k
    · rw [if_pos hx, if_pos (h1.1 hx), h2 hx]
    · rw [if_neg hx, if_neg (fun h => hx (h1.2 h))]
theorem idxOf_twice (L : List Int) (x : Int) : (x ∈ L ↔ x ∈ L ++ L) ∧ (x ∈ L → L.idxOf x = (L ++ L).idxOf x) := by
  refine ⟨by simp, fun h => ?_⟩
  rw [List.idxOf_append, if_pos h]

/-- Where the places of x begin. -/
def S (c : Nat → Nat) : Nat → Nat
  | 0 => 0
  | x + 1 => S c x + c x
theorem S_mono (c : Nat → Nat) (x : Nat) : ∀ d, S c x ≤ S c (x + d)
  | 0 => Nat.le_refl _
  | d + 1 => Nat.le_trans (S_mono c x d) (Nat.le_add_right _ _)
theorem S_le (c : Nat → Nat) {x y : Nat} (h : x ≤ y) : S c x ≤ S c y := by
  have := S_mono c x (y - x)
  rwa [show x + (y - x) = y by omega] at this
/-- Two messages' places lie apart. -/
theorem S_apart (c : Nat → Nat) {x y i j : Nat} (hx : i < c x) (hy : j < c y) (h : S c x + i = S c y + j) : x = y ∧ i = j := by
  rcases Nat.lt_trichotomy x y with h1 | h1 | h1
  · have := S_le c (show x + 1 ≤ y by omega)
    simp only [S] at this
    omega
  · subst h1
    omega
  · have := S_le c (show y + 1 ≤ x by omega)
    simp only [S] at this
    omega
/-- Every place is some message's. -/
theorem S_cover (c : Nat → Nat) : ∀ n k, k < S c n → ∃ x j, x < n ∧ j < c x ∧ k = S c x + j
  | 0, k, h => by simp [S] at h
  | n + 1, k, h => by
    rcases Nat.lt_or_ge k (S c n) with h1 | h1
    · obtain ⟨x, j, hx, hj, e⟩ := S_cover c n k h1
      exact ⟨x, j, by omega, hj, e⟩
    · refine ⟨n, k - S c n, by omega, ?_, by omega⟩
      simp only [S] at h
      omega
theorem S_congr {c c' : Nat → Nat} : ∀ n, (∀ x, x < n → c x = c' x) → S c n = S c' n
  | 0, _ => rfl
  | n + 1, h => by rw [S, S, S_congr n (fun x hx => h x (by omega)), h n (by omega)]

end Go.Proofs.Qxb6601966a.Dp
