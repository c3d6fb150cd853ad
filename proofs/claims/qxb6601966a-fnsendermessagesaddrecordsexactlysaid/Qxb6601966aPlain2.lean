/-
  The plain law for a table given by its fields: beyond filled from a list of keys and a list of values.
-/
import Derived.Test.Qxb6601966aPlain
namespace Go.Proofs.Qxb6601966a.Tab
open Go

/-- beyond behind t rounds of filling. -/
def fill (ks vs : List Int) : Nat → DataW Unit
  | 0 => .map []
  | t + 1 => (fill ks vs t).put (kk (ks.getD t 0)) (vv (vs.getD t 0))

/-- What the law's loop has found of the first t keys (L: byNumber's length). -/
def FineB (L : Nat) (ks vs : List Int) (t : Nat) : Prop := ∀ j, j < t → (L : Int) < ks.getD j 0 ∧ 0 ≤ vs.getD j 0 ∧ hasK (fill ks vs j) (ks.getD j 0) = false

theorem fill_law {L : Nat} {ks vs : List Int} : ∀ t, FineB L ks vs t →
    Maps.Tidy (fill ks vs t) ∧ Maps.size (fill ks vs t) = t ∧ (∀ n, hasK (fill ks vs t) n = true → (L : Int) < n ∧ 0 ≤ val (fill ks vs t) n) ∧
    (∀ j, j < t → hasK (fill ks vs t) (ks.getD j 0) = true ∧ val (fill ks vs t) (ks.getD j 0) = vs.getD j 0)
  | 0, _ => ⟨Maps.tidy_empty, rfl, fun n hn => by simp [fill, hasK, Maps.has] at hn, fun j hj => by omega⟩
  | t + 1, hf => by
    obtain ⟨h1, h2, h3, h4⟩ := fill_law (L := L) (ks := ks) (vs := vs) t (fun j hj => hf j (by omega))
    obtain ⟨f1, f2, f3⟩ := hf t (by omega)
    have e : fill ks vs (t + 1) = (fill ks vs t).put (kk (ks.getD t 0)) (vv (vs.getD t 0)) := rfl
    rw [e]
    have hm := h1.isMap
    refine ⟨h1.put (isKey _) _, ?_, ?_, ?_⟩
    · rw [size_putK h1 _ _ f3, h2]
    · intro n hn
      by_cases en : n = ks.getD t 0
      · subst en
        rw [val_put_same hm]
        exact ⟨f1, f2⟩
      · rw [hasK_put_other en] at hn
        rw [val_put_other en]
        exact h3 n hn
    · intro j hj
      by_cases ej : j = t
      · subst ej
        exact ⟨hasK_put_same hm _ _, val_put_same hm _ _⟩
      · obtain ⟨g1, g2⟩ := h4 j (by omega)
        have en : ks.getD j 0 ≠ ks.getD t 0 := fun en => by rw [en, f3] at g1; cases g1
        rw [hasK_put_other en, val_put_other en]
        exact ⟨g1, g2⟩

/-- The whole law. -/
theorem records_law {bn ks vs : List Int} (named : Nat) (n i : Int) (hlow : ∀ j, j < bn.length → -1 ≤ bn.getD j 0) (hf : FineB bn.length ks vs ks.length)
    (hnamed : named = cnt bn + ks.length) (hn : 1 ≤ n) (hi : 0 ≤ i) (hl : look (bn, fill ks vs ks.length) n = -1) (hL : bn.length ≤ 2 * named) :
    ∀ s, s = add (bn, fill ks vs ks.length) named n i →
    look s n = i ∧ (∀ k, k < bn.length → 0 ≤ bn.getD k 0 → look s ((k : Int) + 1) = bn.getD k 0) ∧ (∀ k, k < ks.length → look s (ks.getD k 0) = vs.getD k 0) ∧
    (∀ j, j < s.1.length → -1 ≤ s.1.getD j 0) ∧ cnt s.1 + Maps.size s.2 = named + 1 ∧ bn.length ≤ s.1.length ∧ s.1.length ≤ 2 * (named + 1) := by
  intro s hs
  obtain ⟨h1, h2, h3, h4⟩ := fill_law (L := bn.length) (ks := ks) (vs := vs) ks.length hf
  have hok : Ok (bn, fill ks vs ks.length) := ⟨h1, hlow, h3⟩
  obtain ⟨a1, a2, a3, a4⟩ := add_law hok named n i hn hi hl
  obtain ⟨l1, l2⟩ := add_len (bn, fill ks vs ks.length) named n i hn
  rw [← hs] at a1 a2 a3 a4 l1 l2
  refine ⟨a2, ?_, ?_, a1.low, ?_, l1, l2 (by show bn.length ≤ _; omega)⟩
  · intro k hk h0
    have e : look (bn, fill ks vs ks.length) ((k : Int) + 1) = bn.getD k 0 := by
      rw [look_in (show 1 ≤ (k : Int) + 1 ∧ (k : Int) + 1 ≤ (bn.length : Int) by omega)]
      show bn.getD ((k : Int) + 1 - 1).toNat 0 = _
      have : ((k : Int) + 1 - 1).toNat = k := by omega
      rw [this]
    have en : (k : Int) + 1 ≠ n := fun en => by rw [en, hl] at e; omega
    rw [a3 _ en, e]
  · intro k hk
    obtain ⟨f1, f2, _⟩ := hf k hk
    obtain ⟨g1, g2⟩ := h4 k hk
    have e : look (bn, fill ks vs ks.length) (ks.getD k 0) = vs.getD k 0 := by
      rw [look_out (show ¬ (1 ≤ ks.getD k 0 ∧ ks.getD k 0 ≤ (bn.length : Int)) by omega)]
      show (if hasK (fill ks vs ks.length) (ks.getD k 0) = true then val (fill ks vs ks.length) (ks.getD k 0) else -1) = _
      rw [if_pos g1, g2]
    have en : ks.getD k 0 ≠ n := fun en => by rw [en, hl] at e; omega
    rw [a3 _ en, e]
  · rw [a4]
    show cnt bn + Maps.size (fill ks vs ks.length) + 1 = _
    rw [h2]
    omega

end Go.Proofs.Qxb6601966a.Tab
