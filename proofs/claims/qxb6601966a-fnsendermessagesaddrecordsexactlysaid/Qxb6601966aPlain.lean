/-
  The plain law of a sender's number table: no Go in sight. A table is a list of numbers (byNumber) and a map as read (beyond), told by Go.Maps' own views.
-/
import Derived.Maps.Views
namespace Go.Proofs.Qxb6601966a.Tab
open Go

/-- A key of beyond. -/
def kk (n : Int) : Lit := .int .u64 n
def vv (n : Int) : DataW Unit := .lit (.int .i64 n)
/-- The number in a datum. -/
def num : DataW Unit → Int
  | .lit (.int _ c) => c
  | _ => 0
/-- What beyond holds at n (0 where nothing). -/
def val (D : DataW Unit) (n : Int) : Int := num (D.atKey (kk n) (vv 0))
def hasK (D : DataW Unit) (n : Int) : Bool := Maps.has D (kk n)

theorem kk_ne {a b : Int} (h : a ≠ b) : kk a ≠ kk b := fun e => h (by simpa [kk] using e)
theorem isKey (n : Int) : WideAt.IsKeyLit (kk n) := trivial

theorem hasK_put_same {D : DataW Unit} (h : Maps.IsMap D) (n i : Int) : hasK (D.put (kk n) (vv i)) n = true := Maps.has_put_same h (isKey n) _
theorem hasK_put_other {D : DataW Unit} {n m : Int} (h : m ≠ n) (i : Int) : hasK (D.put (kk n) (vv i)) m = hasK D m := Maps.has_put_other (kk_ne h) _
theorem val_put_same {D : DataW Unit} (h : Maps.IsMap D) (n i : Int) : val (D.put (kk n) (vv i)) n = i := by
  unfold val; rw [Maps.atKey_put_same h (isKey n)]; rfl
theorem val_put_other {D : DataW Unit} {n m : Int} (h : m ≠ n) (i : Int) : val (D.put (kk n) (vv i)) m = val D m := by
  unfold val; rw [Maps.atKey_put_other (kk_ne h)]
theorem hasK_del_same {D : DataW Unit} (n : Int) : hasK (D.del (kk n)) n = false := Maps.has_del_same
theorem hasK_del_other {D : DataW Unit} {n m : Int} (h : m ≠ n) : hasK (D.del (kk n)) m = hasK D m := Maps.has_del_other (kk_ne h)
theorem val_del_other {D : DataW Unit} {n m : Int} (h : m ≠ n) : val (D.del (kk n)) m = val D m := by
  unfold val; rw [Maps.atKey_del_other (kk_ne h)]
theorem size_putK {D : DataW Unit} (h : Maps.Tidy D) (n i : Int) (hn : hasK D n = false) : Maps.size (D.put (kk n) (vv i)) = Maps.size D + 1 := by
  rw [Maps.size_put h]; unfold hasK at hn; simp [hn]
theorem size_delK {D : DataW Unit} (h : Maps.Tidy D) (n : Int) (hn : hasK D n = true) : Maps.size (D.del (kk n)) + 1 = Maps.size D := by
  have := Maps.size_del (k := kk n) h; unfold hasK at hn; simpa [hn] using this

/-- How many of a row are names (not -1). -/
def cnt (l : List Int) : Nat := (l.filter (fun x => decide (0 ≤ x))).length
theorem cnt_nil : cnt [] = 0 := rfl
theorem cnt_snoc (l : List Int) (x : Int) : cnt (l ++ [x]) = cnt l + if 0 ≤ x then 1 else 0 := by
  unfold cnt
  rw [List.filter_append]
  by_cases h : 0 ≤ x <;> simp [h]
theorem cnt_le (l : List Int) : cnt l ≤ l.length := List.length_filter_le _ _
theorem cnt_set : ∀ (l : List Int) (j : Nat) (i : Int), j < l.length → l.getD j 0 < 0 → 0 ≤ i → cnt (l.set j i) = cnt l + 1
  | [], j, i, h, _, _ => by simp at h
  | x :: r, 0, i, _, hx, hi => by
    simp at hx
    have : ¬ 0 ≤ x := by omega
    simp [cnt, hi, this]
  | x :: r, j + 1, i, h, hx, hi => by
    have := cnt_set r j i (by simpa using h) (by simpa using hx) hi
    unfold cnt at this ⊢
    rw [List.set_cons_succ, List.filter_cons, List.filter_cons]
    split <;> simp_all
theorem cnt_take (l : List Int) (k : Nat) (h : k < l.length) : cnt (l.take (k + 1)) = cnt (l.take k) + if 0 ≤ l.getD k 0 then 1 else 0 := by
  rw [List.take_add_one, List.getElem?_eq_getElem h, Option.toList_some, cnt_snoc]
  simp [List.getElem?_eq_getElem h]

/-- One step of growing: the next number's entry is moved out of beyond. -/
def step (s : List Int × DataW Unit) : List Int × DataW Unit :=
  if hasK s.2 (s.1.length + 1) then (s.1 ++ [val s.2 (s.1.length + 1)], s.2.del (kk (s.1.length + 1))) else (s.1 ++ [-1], s.2)
def grow : Nat → List Int × DataW Unit → List Int × DataW Unit
  | 0, s => s
  | t + 1, s => step (grow t s)
/-- What add does, named being the count before the call. -/
def add (s : List Int × DataW Unit) (named : Nat) (n i : Int) : List Int × DataW Unit :=
  if n ≤ s.1.length then (s.1.set (n - 1).toNat i, s.2)
  else if 2 * ((named : Int) + 1) < n then (s.1, s.2.put (kk n) (vv i))
  else ((grow ((n - 1).toNat - s.1.length) s).1 ++ [i], (grow ((n - 1).toNat - s.1.length) s).2)
/-- Where n stands: -1 where it is not known. -/
def look (s : List Int × DataW Unit) (n : Int) : Int :=
  if 1 ≤ n ∧ n ≤ s.1.length then s.1.getD (n - 1).toNat 0 else if hasK s.2 n then val s.2 n else -1

theorem look_out {s : List Int × DataW Unit} {n : Int} (h : ¬ (1 ≤ n ∧ n ≤ s.1.length)) : look s n = if hasK s.2 n then val s.2 n else -1 := by
  unfold look; rw [if_neg h]
theorem look_in {s : List Int × DataW Unit} {n : Int} (h : 1 ≤ n ∧ n ≤ s.1.length) : look s n = s.1.getD (n - 1).toNat 0 := by
  unfold look; rw [if_pos h]

structure Ok (s : List Int × DataW Unit) : Prop where
  tidy : Maps.Tidy s.2
  low : ∀ j, j < s.1.length → -1 ≤ s.1.getD j 0
  past : ∀ n : Int, hasK s.2 n = true → (s.1.length : Int) < n ∧ 0 ≤ val s.2 n

theorem step_len (s : List Int × DataW Unit) : (step s).1.length = s.1.length + 1 := by unfold step; split <;> simp
theorem grow_len (s : List Int × DataW Unit) : ∀ t, (grow t s).1.length = s.1.length + t
  | 0 => rfl
  | t + 1 => by rw [grow, step_len, grow_len s t]; omega

theorem getD_snoc_lt (l : List Int) (x : Int) (j : Nat) (h : j < l.length) : (l ++ [x]).getD j 0 = l.getD j 0 := by
  simp [List.getElem?_append_left h]
theorem getD_snoc_eq (l : List Int) (x : Int) : (l ++ [x]).getD l.length 0 = x := by simp

theorem step_ok {s : List Int × DataW Unit} (h : Ok s) : Ok (step s) := by
  unfold step
  split
  · rename_i hh
    refine ⟨h.tidy.del _, ?_, ?_⟩
    · intro j hj
      simp only [List.length_append, List.length_singleton] at hj
      by_cases e : j < s.1.length
      · rw [getD_snoc_lt _ _ _ e]; exact h.low j e
      · obtain rfl : j = s.1.length := by omega
        rw [getD_snoc_eq]
        have := (h.past _ hh).2
        omega
    · intro n hn
      simp only [List.length_append, List.length_singleton] at hn ⊢
      by_cases e : n = s.1.length + 1
      · subst e; rw [hasK_del_same] at hn; cases hn
      · rw [hasK_del_other e] at hn
        have := h.past n hn
        rw [val_del_other e]
        omega
  · rename_i hh
    refine ⟨h.tidy, ?_, ?_⟩
    · intro j hj
      simp only [List.length_append, List.length_singleton] at hj
      by_cases e : j < s.1.length
      · rw [getD_snoc_lt _ _ _ e]; exact h.low j e
      · obtain rfl : j = s.1.length := by omega
        rw [getD_snoc_eq]
        omega
    · intro n hn
      simp only [List.length_append, List.length_singleton] at hn ⊢
      have := h.past n hn
      by_cases e : n = s.1.length + 1
      · subst e; exact absurd hn hh
      · omega

theorem step_look {s : List Int × DataW Unit} (h : Ok s) (m : Int) : look (step s) m = look s m := by
  by_cases hm1 : 1 ≤ m
  · by_cases hm2 : m ≤ s.1.length
    · have e1 : look s m = s.1.getD (m - 1).toNat 0 := by unfold look; rw [if_pos ⟨hm1, hm2⟩]
      have e2 : look (step s) m = (step s).1.getD (m - 1).toNat 0 := by unfold look; rw [if_pos ⟨hm1, by rw [step_len]; omega⟩]
      rw [e1, e2]
      unfold step
      split
      · exact getD_snoc_lt _ _ _ (by omega)
      · exact getD_snoc_lt _ _ _ (by omega)
    · by_cases hm3 : m = s.1.length + 1
      · subst hm3
        have e2 : look (step s) (s.1.length + 1) = (step s).1.getD s.1.length 0 := by
          unfold look
          rw [if_pos ⟨by omega, by rw [step_len]; omega⟩]
          congr 1
          omega
        rw [e2]
        unfold look
        rw [if_neg (by omega)]
        unfold step
        split
        · exact getD_snoc_eq _ _
        · exact getD_snoc_eq _ _
      · have hl := step_len s
        rw [look_out (by omega), look_out (by omega)]
        unfold step
        split
        · simp only [hasK_del_other hm3, val_del_other hm3]
        · rfl
  · rw [look_out (by omega), look_out (by omega)]
    have hno : hasK s.2 m = false := by
      cases hh : hasK s.2 m
      · rfl
      · have := h.past m hh; omega
    have hno' : hasK (step s).2 m = false := by
      cases hh : hasK (step s).2 m
      · rfl
      · have := (step_ok h).past m hh; omega
    rw [hno, hno']
    rfl

theorem step_cnt {s : List Int × DataW Unit} (h : Ok s) : cnt (step s).1 + Maps.size (step s).2 = cnt s.1 + Maps.size s.2 := by
  unfold step
  split
  · rename_i hh
    have h1 := size_delK h.tidy _ hh
    have h2 := (h.past _ hh).2
    show cnt (s.1 ++ [val s.2 (s.1.length + 1)]) + Maps.size (s.2.del (kk (s.1.length + 1))) = _
    rw [cnt_snoc, if_pos h2]
    omega
  · show cnt (s.1 ++ [-1]) + Maps.size s.2 = _
    rw [cnt_snoc, if_neg (by omega)]
    omega

theorem grow_ok {s : List Int × DataW Unit} (h : Ok s) : ∀ t, Ok (grow t s)
  | 0 => h
  | t + 1 => step_ok (grow_ok h t)
theorem grow_look {s : List Int × DataW Unit} (h : Ok s) (m : Int) : ∀ t, look (grow t s) m = look s m
  | 0 => rfl
  | t + 1 => (step_look (grow_ok h t) m).trans (grow_look h m t)
theorem grow_cnt {s : List Int × DataW Unit} (h : Ok s) : ∀ t, cnt (grow t s).1 + Maps.size (grow t s).2 = cnt s.1 + Maps.size s.2
  | 0 => rfl
  | t + 1 => (step_cnt (grow_ok h t)).trans (grow_cnt h t)
theorem grow_size_le {s : List Int × DataW Unit} (h : Ok s) (t : Nat) : Maps.size (grow t s).2 ≤ cnt s.1 + Maps.size s.2 := by
  have := grow_cnt h t; omega

theorem look_nonneg_of_hasK {s : List Int × DataW Unit} (h : Ok s) {n : Int} (hl : look s n = -1) : hasK s.2 n = false := by
  cases hh : hasK s.2 n
  · rfl
  · have hp := h.past n hh
    unfold look at hl
    rw [if_neg (by omega), if_pos hh] at hl
    omega

/-- The law of add. -/
theorem add_law {s : List Int × DataW Unit} (h : Ok s) (named : Nat) (n i : Int) (hn : 1 ≤ n) (hi : 0 ≤ i) (hl : look s n = -1) :
    Ok (add s named n i) ∧ look (add s named n i) n = i ∧ (∀ m, m ≠ n → look (add s named n i) m = look s m) ∧
    cnt (add s named n i).1 + Maps.size (add s named n i).2 = cnt s.1 + Maps.size s.2 + 1 := by
  have hno := look_nonneg_of_hasK h hl
  unfold add
  by_cases h1 : n ≤ s.1.length
  · rw [if_pos h1]
    have hj : (n - 1).toNat < s.1.length := by omega
    have hold : s.1.getD (n - 1).toNat 0 = -1 := by
      unfold look at hl
      rw [if_pos ⟨hn, h1⟩] at hl
      exact hl
    refine ⟨⟨h.tidy, ?_, ?_⟩, ?_, ?_, ?_⟩
    · intro j hj'
      simp only [List.length_set] at hj'
      have := h.low j hj'
      simp only [List.getD_eq_getElem?_getD, List.getElem?_set] at this ⊢
      split
      · simp; omega
      · exact this
    · intro m hm
      simp only [List.length_set] at hm ⊢
      exact h.past m hm
    · unfold look
      simp only [List.length_set]
      rw [if_pos ⟨hn, h1⟩, List.getD_eq_getElem?_getD, List.getElem?_set, if_pos rfl, if_pos hj]
      rfl
    · intro m hm
      unfold look
      simp only [List.length_set]
      split
      · simp only [List.getD_eq_getElem?_getD, List.getElem?_set]
        rw [if_neg (by omega)]
      · rfl
    · show cnt (s.1.set (n - 1).toNat i) + Maps.size s.2 = _
      rw [cnt_set _ _ _ hj (by omega) hi]
      omega
  · rw [if_neg h1]
    by_cases h2 : 2 * ((named : Int) + 1) < n
    · rw [if_pos h2]
      have hm := h.tidy.isMap
      refine ⟨⟨h.tidy.put (isKey n) _, h.low, ?_⟩, ?_, ?_, ?_⟩
      · intro m hm'
        by_cases e : m = n
        · subst e
          exact ⟨by show (s.1.length : Int) < m; omega, by show 0 ≤ val (s.2.put (kk m) (vv i)) m; rw [val_put_same hm]; exact hi⟩
        · have hp := h.past m (by simpa [hasK_put_other e] using hm')
          exact ⟨hp.1, by show 0 ≤ val (s.2.put (kk n) (vv i)) m; rw [val_put_other e]; exact hp.2⟩
      · unfold look
        show (if 1 ≤ n ∧ n ≤ (s.1.length : Int) then _ else if hasK (s.2.put (kk n) (vv i)) n then val (s.2.put (kk n) (vv i)) n else -1) = i
        rw [if_neg (by omega), hasK_put_same hm, if_pos rfl, val_put_same hm]
      · intro m e
        unfold look
        show (if 1 ≤ m ∧ m ≤ (s.1.length : Int) then s.1.getD (m - 1).toNat 0 else if hasK (s.2.put (kk n) (vv i)) m then val (s.2.put (kk n) (vv i)) m else -1) = _
        rw [hasK_put_other e, val_put_other e]
      · show cnt s.1 + Maps.size (s.2.put (kk n) (vv i)) = _
        rw [size_putK h.tidy n i hno]
        omega
    · rw [if_neg h2]
      have ht : ∃ t, t = (n - 1).toNat - s.1.length := ⟨_, rfl⟩
      obtain ⟨t, ht⟩ := ht
      rw [← ht]
      have hg := grow_ok h t
      have hlen := grow_len s t
      have hlk := grow_look h n t
      have hcn := grow_cnt h t
      have hall := fun m => grow_look h m t
      generalize grow t s = g at *
      have hgl : (g.1.length : Int) + 1 = n := by omega
      have hgno := look_nonneg_of_hasK hg (hlk.trans hl)
      refine ⟨⟨hg.tidy, ?_, ?_⟩, ?_, ?_, ?_⟩
      · intro j hj
        simp only [List.length_append, List.length_singleton] at hj
        by_cases e : j < g.1.length
        · rw [getD_snoc_lt _ _ _ e]; exact hg.low j e
        · obtain rfl : j = g.1.length := by omega
          rw [getD_snoc_eq]; omega
      · intro m hm
        simp only [List.length_append, List.length_singleton] at hm ⊢
        have := hg.past m hm
        by_cases e : m = n
        · subst e; rw [hgno] at hm; cases hm
        · omega
      · unfold look
        simp only [List.length_append, List.length_singleton]
        rw [if_pos (by omega)]
        have : (n - 1).toNat = g.1.length := by omega
        rw [this, getD_snoc_eq]
      · intro m e
        rw [← hall m]
        unfold look
        simp only [List.length_append, List.length_singleton]
        by_cases e2 : 1 ≤ m ∧ m ≤ g.1.length
        · rw [if_pos (by omega), if_pos e2, getD_snoc_lt _ _ _ (by omega)]
        · rw [if_neg (by omega), if_neg e2]
      · show cnt (g.1 ++ [i]) + Maps.size g.2 = _
        rw [cnt_snoc, if_pos hi]
        omega

theorem add_len (s : List Int × DataW Unit) (named : Nat) (n i : Int) (hn : 1 ≤ n) : s.1.length ≤ (add s named n i).1.length ∧ (s.1.length ≤ 2 * (named + 1) → (add s named n i).1.length ≤ 2 * (named + 1)) := by
  unfold add
  split
  · simp
  · split
    · simp
    · simp only [List.length_append, List.length_singleton, grow_len]
      omega

/-- The table of nothing. -/
def empty : List Int × DataW Unit := ([], .map [])
theorem empty_ok : Ok empty := ⟨Maps.tidy_empty, fun j hj => by simp [empty] at hj, fun n hn => by simp [empty, hasK, Maps.has] at hn⟩
theorem empty_look (n : Int) : look empty n = -1 := by
  unfold look
  rw [if_neg (by simp [empty]; omega)]
  simp [empty, hasK, Maps.has]

/-- The script: the first j numbers added to the empty table. -/
def run (ns is : List Int) : Nat → List Int × DataW Unit
  | 0 => empty
  | j + 1 => add (run ns is j) j (ns.getD j 0) (is.getD j 0)

/-- What the law's first loop has found of the first j numbers. -/
def Fine (ns is : List Int) (j : Nat) : Prop := ∀ t, t < j → 1 ≤ ns.getD t 0 ∧ 0 ≤ is.getD t 0 ∧ ∀ u, u < t → ns.getD u 0 ≠ ns.getD t 0

theorem run_law {ns is : List Int} : ∀ j, Fine ns is j →
    Ok (run ns is j) ∧ (∀ t, t < j → look (run ns is j) (ns.getD t 0) = is.getD t 0) ∧ (∀ m, (∀ t, t < j → ns.getD t 0 ≠ m) → look (run ns is j) m = -1) ∧
    cnt (run ns is j).1 + Maps.size (run ns is j).2 = j ∧ (run ns is j).1.length ≤ 2 * j
  | 0, _ => ⟨empty_ok, fun t ht => by omega, fun m _ => empty_look m, rfl, Nat.le_refl _⟩
  | j + 1, hf => by
    obtain ⟨h1, h2, h3, h4, h5⟩ := run_law j (fun t ht => hf t (by omega))
    obtain ⟨f1, f2, f3⟩ := hf j (by omega)
    obtain ⟨a1, a2, a3, a4⟩ := add_law h1 j (ns.getD j 0) (is.getD j 0) f1 f2 (h3 _ (fun t ht => f3 t ht))
    have a5 := add_len (run ns is j) j (ns.getD j 0) (is.getD j 0) f1
    have e : run ns is (j + 1) = add (run ns is j) j (ns.getD j 0) (is.getD j 0) := rfl
    rw [e]
    generalize add (run ns is j) j (ns.getD j 0) (is.getD j 0) = s at *
    refine ⟨a1, ?_, ?_, by omega, by omega⟩
    · intro t ht
      by_cases ej : t = j
      · subst ej; exact a2
      · have htj : t < j := by omega
        rw [a3 _ (f3 t htj)]
        exact h2 t htj
    · intro m hm
      rw [a3 m (hm j (by omega)).symm]
      exact h3 m (fun t ht => hm t (by omega))

end Go.Proofs.Qxb6601966a.Tab
