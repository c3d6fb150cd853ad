/-
  The plain law of names numbered by first arrival: no Go in sight.
-/
import Derived.Maps.Views
namespace Go.Proofs.Qxb6601966a.Nm
open Go

/-- A name as a key. -/
def ks (s : ByteArray) : Lit := .string s.data.toList
def vi (n : Int) : DataW Unit := .lit (.int .i64 n)
def num : DataW Unit → Int
  | .lit (.int _ c) => c
  | _ => 0
def valS (D : DataW Unit) (s : ByteArray) : Int := num (D.atKey (ks s) (vi 0))
def hasS (D : DataW Unit) (s : ByteArray) : Bool := Maps.has D (ks s)

theorem ks_inj {a b : ByteArray} (h : ks a = ks b) : a = b := by
  have h1 : a.data.toList = b.data.toList := by simpa [ks] using h
  have h2 : a.data = b.data := Array.toList_inj.1 h1
  cases a; cases b
  simp_all
theorem ks_ne {a b : ByteArray} (h : a ≠ b) : ks a ≠ ks b := fun e => h (ks_inj e)
theorem isKeyS (s : ByteArray) : WideAt.IsKeyLit (ks s) := trivial

/-- Where s stands first in l. -/
def pos (s : ByteArray) : List ByteArray → Nat
  | [] => 0
  | x :: r => if x = s then 0 else pos s r + 1

theorem pos_lt {s : ByteArray} : ∀ {l : List ByteArray}, s ∈ l → pos s l < l.length
  | [], h => by cases h
  | x :: r, h => by
    unfold pos
    by_cases e : x = s
    · rw [if_pos e]; simp
    · rw [if_neg e]
      have := pos_lt (l := r) (by rcases List.mem_cons.1 h with h | h; exact absurd h.symm e; exact h)
      simp; omega
theorem pos_get {s : ByteArray} : ∀ {l : List ByteArray}, s ∈ l → l.getD (pos s l) ByteArray.empty = s
  | [], h => by cases h
  | x :: r, h => by
    unfold pos
    by_cases e : x = s
    · rw [if_pos e]; simp [e]
    · rw [if_neg e]
      have := pos_get (l := r) (by rcases List.mem_cons.1 h with h | h; exact absurd h.symm e; exact h)
      simpa using this
theorem pos_snoc_mem {s x : ByteArray} : ∀ {l : List ByteArray}, s ∈ l → pos s (l ++ [x]) = pos s l
  | [], h => by cases h
  | y :: r, h => by
    show pos s (y :: (r ++ [x])) = pos s (y :: r)
    unfold pos
    by_cases e : y = s
    · rw [if_pos e, if_pos e]
    · rw [if_neg e, if_neg e, pos_snoc_mem (by rcases List.mem_cons.1 h with h | h; exact absurd h.symm e; exact h)]
theorem pos_snoc_new {s : ByteArray} : ∀ {l : List ByteArray}, s ∉ l → pos s (l ++ [s]) = l.length
  | [], _ => by simp [pos]
  | y :: r, h => by
    show pos s (y :: (r ++ [s])) = _
    unfold pos
    have hy : y ≠ s := fun e => h (by simp [e])
    rw [if_neg hy, pos_snoc_new (fun hm => h (by simp [hm]))]
    simp
/-- The first place is no later than any place. -/
theorem pos_le {s : ByteArray} : ∀ {l : List ByteArray} {t : Nat}, t < l.length → l.getD t ByteArray.empty = s → pos s l ≤ t
  | [], t, h, _ => by simp at h
  | y :: r, 0, _, he => by
    have : y = s := by simpa using he
    unfold pos
    rw [if_pos this]
    exact Nat.le_refl _
  | y :: r, t + 1, h, he => by
    unfold pos
    by_cases e : y = s
    · rw [if_pos e]; omega
    · rw [if_neg e]
      have := pos_le (s := s) (l := r) (t := t) (by simpa using h) (by simpa using he)
      omega
theorem pos_of_nodup {l : List ByteArray} (h : l.Nodup) {k : Nat} (hk : k < l.length) : pos (l.getD k ByteArray.empty) l = k := by
  have hm : l.getD k ByteArray.empty ∈ l := by simp [List.getElem?_eq_getElem hk]
  have h1 := pos_lt hm
  have h2 := pos_get hm
  rw [List.getD_eq_getElem?_getD, List.getElem?_eq_getElem h1, Option.getD_some] at h2
  have h3 : l.getD k ByteArray.empty = l[k] := by simp [List.getElem?_eq_getElem hk]
  exact (List.getElem_inj h).1 (h2.trans h3)

/-- Is s in l? -/
def mem (s : ByteArray) (l : List ByteArray) : Bool := l.any (fun x => decide (x = s))
theorem mem_iff {s : ByteArray} {l : List ByteArray} : mem s l = true ↔ s ∈ l := by
  unfold mem
  rw [List.any_eq_true]
  constructor
  · rintro ⟨x, hx, e⟩
    have e' : x = s := by simpa using e
    exact e' ▸ hx
  · intro h
    exact ⟨s, h, by simp⟩
theorem mem_false {s : ByteArray} {l : List ByteArray} (h : s ∉ l) : mem s l = false := by
  cases e : mem s l
  · rfl
  · exact absurd (mem_iff.1 e) h
theorem not_mem {s : ByteArray} {l : List ByteArray} (h : mem s l = false) : s ∉ l := fun e => by rw [mem_iff.2 e] at h; cases h

/-- The names met, each once, behind j arrivals. -/
def ids (ns : List ByteArray) : Nat → List ByteArray
  | 0 => []
  | j + 1 => if mem (ns.getD j ByteArray.empty) (ids ns j) then ids ns j else ids ns j ++ [ns.getD j ByteArray.empty]

theorem ids_old {ns : List ByteArray} {j : Nat} (h : ns.getD j ByteArray.empty ∈ ids ns j) : ids ns (j + 1) = ids ns j := by rw [ids, if_pos (mem_iff.2 h)]
theorem ids_new {ns : List ByteArray} {j : Nat} (h : ns.getD j ByteArray.empty ∉ ids ns j) : ids ns (j + 1) = ids ns j ++ [ns.getD j ByteArray.empty] := by rw [ids, if_neg (by rw [mem_false h]; exact Bool.false_ne_true)]
theorem ids_le (ns : List ByteArray) : ∀ j, (ids ns j).length ≤ j
  | 0 => Nat.le_refl _
  | j + 1 => by
    have := ids_le ns j
    by_cases h : ns.getD j ByteArray.empty ∈ ids ns j
    · rw [ids_old h]; omega
    · rw [ids_new h]; simp; omega
theorem ids_nodup (ns : List ByteArray) : ∀ j, (ids ns j).Nodup
  | 0 => List.nodup_nil
  | j + 1 => by
    have ih := ids_nodup ns j
    by_cases h : ns.getD j ByteArray.empty ∈ ids ns j
    · rw [ids_old h]; exact ih
    · rw [ids_new h, List.nodup_append]
      refine ⟨ih, by simp, fun a ha b hb e => ?_⟩
      rw [List.mem_singleton] at hb
      subst hb
      subst e
      exact h ha
theorem ids_mem_of (ns : List ByteArray) : ∀ j t, t < j → ns.getD t ByteArray.empty ∈ ids ns j
  | 0, t, h => by omega
  | j + 1, t, h => by
    by_cases hm : ns.getD j ByteArray.empty ∈ ids ns j
    · rw [ids_old hm]
      by_cases e : t = j
      · subst e; exact hm
      · exact ids_mem_of ns j t (by omega)
    · rw [ids_new hm, List.mem_append]
      by_cases e : t = j
      · subst e; right; simp
      · left; exact ids_mem_of ns j t (by omega)
theorem ids_mem_inv (ns : List ByteArray) : ∀ j s, s ∈ ids ns j → ∃ t, t < j ∧ ns.getD t ByteArray.empty = s
  | 0, s, h => by simp [ids] at h
  | j + 1, s, h => by
    by_cases hm : ns.getD j ByteArray.empty ∈ ids ns j
    · rw [ids_old hm] at h
      obtain ⟨t, ht, e⟩ := ids_mem_inv ns j s h
      exact ⟨t, by omega, e⟩
    · rw [ids_new hm, List.mem_append] at h
      rcases h with h | h
      · obtain ⟨t, ht, e⟩ := ids_mem_inv ns j s h
        exact ⟨t, by omega, e⟩
      · rw [List.mem_singleton] at h
        exact ⟨j, by omega, h.symm⟩
/-- A name's number stays. -/
theorem pos_ids_step (ns : List ByteArray) (j : Nat) (s : ByteArray) (h : s ∈ ids ns j) : pos s (ids ns (j + 1)) = pos s (ids ns j) := by
  by_cases hm : ns.getD j ByteArray.empty ∈ ids ns j
  · rw [ids_old hm]
  · rw [ids_new hm, pos_snoc_mem h]

/-- D holds just the names of l, each with f of it. -/
structure Idx (D : DataW Unit) (l : List ByteArray) (f : ByteArray → Int) : Prop where
  tidy : Maps.Tidy D
  size : Maps.size D = l.length
  has : ∀ s, hasS D s = mem s l
  val : ∀ s, s ∈ l → valS D s = f s

theorem idx_empty (f : ByteArray → Int) : Idx (.map []) [] f := ⟨Maps.tidy_empty, rfl, fun s => by simp [hasS, Maps.has, mem], fun s hs => by cases hs⟩
theorem Idx.congr {D : DataW Unit} {l : List ByteArray} {f g : ByteArray → Int} (h : Idx D l f) (e : ∀ s, s ∈ l → f s = g s) : Idx D l g := ⟨h.tidy, h.size, h.has, fun s hs => (h.val s hs).trans (e s hs)⟩
theorem Idx.put {D : DataW Unit} {l : List ByteArray} {f : ByteArray → Int} (h : Idx D l f) {s : ByteArray} (hs : s ∉ l) (c : Int) (g : ByteArray → Int) (hg : ∀ x, x ∈ l → g x = f x) (hc : g s = c) : Idx (D.put (ks s) (vi c)) (l ++ [s]) g := by
  have hm := h.tidy.isMap
  refine ⟨h.tidy.put (isKeyS s) _, ?_, ?_, ?_⟩
  · have h1 := h.has s
    rw [Maps.size_put h.tidy]
    unfold hasS at h1
    rw [h1, mem_false hs]
    simp [h.size]
  · intro x
    by_cases e : x = s
    · subst e
      unfold hasS
      rw [Maps.has_put_same hm (isKeyS x)]
      exact (mem_iff.2 (by simp)).symm
    · have h1 := h.has x
      unfold hasS at h1 ⊢
      have e' : s ≠ x := fun h => e h.symm
      rw [Maps.has_put_other (ks_ne e), h1]
      simp [mem, e']
  · intro x hx
    by_cases e : x = s
    · subst e
      unfold valS
      rw [Maps.atKey_put_same hm (isKeyS x), hc]
      rfl
    · have hx' : x ∈ l := by simpa [e] using hx
      unfold valS
      rw [Maps.atKey_put_other (ks_ne e)]
      exact (h.val x hx').trans (hg x hx').symm

end Go.Proofs.Qxb6601966a.Nm
