/-
  zzSatMul.
-/
import Derived.Test.Qxb6603132aDoorProg
import Derived.Test.Qxb6603132aDoorWide
import Derived.WalkKit
import Derived.WalkSpells
namespace Go.Proofs.Qxb6603132aDoor
open Go Go.RowKit

theorem hideS {p : Prop} (h : p) : Hid p := h

theorem sat_calls (a b lim : Nat) (w : World) (ha : a ≤ 100000) (hb : b ≤ 100000000000) (hl : lim ≤ 100000000) :
    Calls Tryd.prog 14 #[.int .i64 (a : Int), .int .i64 (b : Int), .int .i64 (lim : Int)] w fun e w' => e = .returned (.int .i64 ((min (a * b) (lim + 1) : Nat) : Int)) ∧ w' = w := by
  by_cases h0 : a = 0
  · subst h0
    go_enter Tryd.func14, Tryd.ntmps14
    go_wp2
    go_ret
    exact ⟨by simp, rfl⟩
  · by_cases h1 : b = 0
    · subst h1
      have h0' : ((a : Int) == 0) = false := by rw [beq_eq_false_iff_ne]; omega
      go_enter Tryd.func14, Tryd.ntmps14
      go_wp2
      go_ret
      exact ⟨by simp, rfl⟩
    · have h0' : ((a : Int) == 0) = false := by rw [beq_eq_false_iff_ne]; omega
      have h1' : ((b : Int) == 0) = false := by rw [beq_eq_false_iff_ne]; omega
      have hab : a * b ≤ 100000 * 100000000000 := Nat.mul_le_mul ha hb
      obtain ⟨p, hp⟩ : ∃ p, p = a * b := ⟨_, rfl⟩
      obtain ⟨q, hq⟩ : ∃ q, q = lim / b := ⟨_, rfl⟩
      have hql : q ≤ lim := by rw [hq]; exact Nat.div_le_self _ _
      have eq1 : (lim : Int) / (b : Int) = (q : Int) := by rw [hq]; exact (Int.natCast_ediv _ _).symm
      have ep1 : (a : Int) * (b : Int) = (p : Int) := by rw [hp]; exact (Int.natCast_mul _ _).symm
      have hpl : p ≤ 10000000000000000 := by omega
      have hcut := Wd.cut_quo (a := a) (lim := lim) (show 0 < b by omega)
      rw [← hq, ← hp] at hcut
      rw [← hp]
      have Hcut := hideS hcut
      clear hcut hp hq hab
      by_cases h2 : (q : Int) < (a : Int)
      · have hm := Hcut.out.1 (by omega)
        go_enter Tryd.func14, Tryd.ntmps14
        go_wp2
        go_ret
        exact ⟨by rw [Nat.min_eq_right (by omega)]; rfl, rfl⟩
      · have hm : ¬ lim < p := fun h => h2 (by have := Hcut.out.2 h; omega)
        go_enter Tryd.func14, Tryd.ntmps14
        go_wp2
        go_ret
        exact ⟨by rw [Nat.min_eq_left (by omega)]; rfl, rfl⟩

end Go.Proofs.Qxb6603132aDoor
