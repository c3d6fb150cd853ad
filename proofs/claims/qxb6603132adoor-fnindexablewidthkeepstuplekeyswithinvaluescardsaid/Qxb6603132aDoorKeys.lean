/-
  tupleKeys: how many keys it gives.
-/
import Derived.Test.Qxb6603132aDoorIndex
import Derived.Test.Qxb6603132aDoorItoa
import Derived.Test.Qxb6603132aDoorOdo
import Derived.Laws.IdiomStrings
import Derived.BigQuiet
import Derived.Deep.QuietTactic
namespace Go.Proofs.Qxb6603132aDoor
open Go Go.RowKit Go.Shelf

attribute [local go_sem] Oper.semAt_some

def lenV : Value → Nat
  | .slice _ n _ => n
  | _ => 0

def KPost (w : World) (n : Nat) (e : Ending) (w' : World) : Prop := (∃ a c, e = .returned (.slice a n c)) ∧ Below w.heap.size w w'

theorem keys_one (l : Nat → Nat) (cg : Nat) (ag : Option Addr) (w : World) (hR : LSd w.heap.size w ag 1 l) : Calls Tryd.prog 15 #[.slice ag 1 cg] w (KPost w (Wd.pr l 0 1)) := by
  have hpr : Wd.pr l 0 1 = l 0 := by simp [Wd.pr]
  rw [hpr]
  obtain ⟨b, off, rfl, hb, a, c, hc, _⟩ := hR.at (i := 0) (by omega)
  clear hR hpr
  rw [Nat.add_zero] at hc
  generalize l 0 = n at *
  go_enter Tryd.func15, Tryd.ntmps15
  go_wp2
  go_ret
  exact ⟨⟨_, _, rfl⟩, Below.refl _ _⟩

/-- 'make([]string, 0, c)', in whatever world. -/
theorem make27 (c : Nat) (hc : c ≤ 65536) : ∃ cs : Array Value, cs.size = c ∧ ∀ W : World, (Instr.makeSlice 27 (.int .i64 0) (.int .i64 (c : Int))).run Tryd.prog W = .ok (.slice (some ⟨W.heap.size, 0, none⟩) 0 c) (W.alloc (.cells cs 9)) := by
  obtain ⟨i0, hi, hz0, hz1, hz2⟩ := info_parts i9
  refine ⟨madeCells (Value.string ByteArray.empty).cells (c * i0.size), ?_, fun W => ?_⟩
  · have hl2 : (madeCells (Value.string ByteArray.empty).cells c).toList = List.replicate c (Value.string ByteArray.empty) := toList_madeCells_one _ c
    rw [hz1, Nat.mul_one, ← Array.length_toList, hl2, List.length_replicate]
  · have h := run_make (P := Tryd.prog) W 27 9 i0 (.string ByteArray.empty) Tryd.underlying27 hi hz0 .i64 .i64 0 (c : Int) (by omega) (by omega) (by rw [hz2]; omega) (by omega)
    simpa using h

set_option maxRecDepth 100000 in
theorem keys_zero (l : Nat → Nat) (n cg : Nat) (ag : Option Addr) (w : World) (hR : LSd w.heap.size w ag n l) (hn : 2 ≤ n) (hn2 : n ≤ 65536) (hlen : ∀ i, i < n → l i ≤ 32768) (z : Nat) (hz : z < n) (hlz : l z = 0) : Calls Tryd.prog 15 #[.slice ag n cg] w (KPost w 0) := by
  have HR := hideS hR
  have Hlen := hideS hlen
  have Hlz := hideS hlz
  have hn1 : ((n : Int) == 1) = false := by rw [beq_eq_false_iff_ne]; omega
  clear hR hlen hlz
  obtain ⟨cs, _, hmk0⟩ := make27 0 (by omega)
  have hmk : ∀ W : World, (Instr.makeSlice 27 (.int .i64 0) (.int .i64 0)).run Tryd.prog W = .ok (.slice (some ⟨W.heap.size, 0, none⟩) 0 0) (W.alloc (.cells cs 9)) := hmk0
  clear hmk0
  go_enter Tryd.func15, Tryd.ntmps15
  go_wp2_with fail
  go_loop [3, 21] (fun c i => ∃ (t : Nat) (x : Int), t ≤ n ∧ i = .int .i64 t ∧ c = .int .i64 x ∧ (z < t → x = 0)) (fun _ i => n - (intOf i).toNat)
  case atStart => exact ⟨0, 1, Nat.zero_le _, rfl, rfl, fun h => by omega⟩
  case round =>
    obtain ⟨t, x, ht, rfl, rfl, hx⟩ := hrel
    by_cases hlt : t < n
    · obtain ⟨b, off, rfl, hb, a, c, hc, _⟩ := HR.out.at (i := t) hlt
      have hl := Hlen.out t hlt
      have hltI : (t : Int) < (n : Int) := by omega
      by_cases hzt : z < t
      · obtain rfl := hx hzt
        clear hx
        generalize l t = y at *
        go_wp2
        go_round
        case rel => exact ⟨t + 1, 0, by omega, by go_num, by first | rfl | simp, fun _ => rfl⟩
        case measure => simp [intOf]; omega
      · by_cases hzt2 : t = z
        · subst hzt2
          rw [Hlz.out] at hc
          clear hx
          go_wp2
          go_round
          case rel => exact ⟨t + 1, 0, by omega, by go_num, by first | rfl | simp, fun _ => rfl⟩
          case measure => simp [intOf]; omega
        · clear hx
          generalize l t = y at *
          go_wp2
          go_round
          case rel => exact ⟨t + 1, _, by omega, by go_num, rfl, fun h => by omega⟩
          case measure => simp [intOf]; omega
    · obtain rfl : n = t := by omega
      obtain rfl := hx hz
      have hltI : ¬ (n : Int) < (n : Int) := by omega
      clear hx
      go_wp2
      go_ret
      exact ⟨⟨_, _, rfl⟩, (Below.refl _ _).alloc (Nat.le_refl _) _⟩

end Go.Proofs.Qxb6603132aDoor
