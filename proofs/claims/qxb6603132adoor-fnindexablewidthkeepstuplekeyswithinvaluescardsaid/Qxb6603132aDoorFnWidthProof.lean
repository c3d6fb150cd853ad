/-
  THE PROOF OF 'Rows.FnIndexableWidthKeepsTupleKeysWithinValuesCardSaid': the row's frame after the guide's shells and its worked row toyas (a row that lists variables), turned to a slice of slices of strings and an int; the walk: 'law_calls'; the card by the given tie.
-/
import Derived.Test.Qxb6603132aDoorRows
import Derived.Test.Qxb6603132aDoorTie
import Derived.Test.Qxb6603132aDoorCards
import Derived.Test.Qxb6603132aDoorLaw
import Derived.Test.Qxb6603132aDoorOpen
import Derived.WalkKit
import Derived.ProofKit
import Derived.OpenShut
import Derived.ShutString
import Derived.ChangeOld
import Derived.Below
import Derived.ChangeSame
import Derived.ChangeVars
import Derived.JoinedOf
import Derived.RowKit
import Derived.RowKitTokens
import Derived.LaidLaws
import Derived.LaidHandle
import Derived.Stop.Joined
import Derived.Lib.LaidTab
import Derived.SevenTiedAt
namespace Go.Proofs.Qxb6603132aDoor.fnIndexableWidthKeepsTupleKeysWithinValues
open Go.ChangeShapes Go.WideShapes Go.ChangeAt Go.RowKit
set_option linter.unusedVariables false

theorem own : ownKnob Tryd.prog.godebug = none := by kernel_rfl
theorem laidOut : laidOutB Tryd.prog = true := by kernel_rfl
theorem gT : Tryd.prog.globalNamed tabName = some 0 := by kernel_rfl
theorem gTType : (Tryd.prog.globals[0]?).map (·.type) = some 52 := by kernel_rfl
theorem datum : (Rows.laid_internal_strconv_uint64pow10 : DataW Unit) = Lib.tabData .u64 Lib.pow10Tab := by kernel_rfl

/-- What the condition gives the walk: the table of powers of ten. -/
theorem tab_of_laid {W : World} (h : laidMetH Tryd.prog Rows.fnIndexableWidthKeepsTupleKeysWithinValuesRow.laid W) : Lib.TabIs Tryd.prog W tabName .u64 Lib.pow10Tab := by
  have h' : laidMet Tryd.prog Rows.fnIndexableWidthKeepsTupleKeysWithinValuesRow.laid W := h
  obtain ⟨ps, ⟨g1, t1, cs1, f1, p1, q1, _, _, _, _, ⟨g2, t2, cs2, f2, p2, q2, _, _, _, _, ⟨g3, t3, cs3, f3, p3, q3, hg3, ht3, hvar, hd, _, _⟩, _⟩, _⟩, _⟩ := h'
  obtain rfl := Option.some.inj (gT.symm.trans hg3)
  obtain rfl := Option.some.inj (gTType.symm.trans ht3)
  rw [datum] at hd
  refine Eq.trans (b := some cs3) hvar ?_
  rw [← Lib.cells_of_tab Tryd.underlying52 Tryd.underlying42 (by kernel_rfl) (by kernel_rfl) hd]

/-- A row laid anew. -/
def lay (cs : Array Value) : Obj → Obj
  | .cells _ t frozen => .cells cs t frozen
  | o => o
def tab32 : List Int := [0, 1, 28, 2, 29, 14, 24, 3, 30, 22, 20, 15, 25, 17, 4, 8, 31, 27, 13, 23, 21, 19, 16, 7, 26, 12, 18, 6, 11, 5, 10, 9]
def tab64 : List Int := [0, 1, 56, 2, 57, 49, 28, 3, 61, 58, 42, 50, 38, 29, 17, 4, 62, 47, 59, 36, 45, 43, 51, 22, 53, 39, 33, 30, 24, 18, 12, 5, 63, 55, 48, 27, 60, 41, 37, 16, 46, 35, 44, 21, 52, 32, 23, 11, 54, 26, 40, 15, 34, 20, 31, 10, 25, 14, 19, 9, 13, 8, 7, 6]
/-- A world that meets the condition: the settled one, the three tables laid. -/
def laidWorld (P : Program) (os : Os) : World :=
  { World.holding P os ⟨#[], #[], []⟩ with
    heap := (((World.holding P os ⟨#[], #[], []⟩).heap.modify 0 (lay (Lib.pow10Tab.map fun z => Value.int .u64 z).toArray)).modify 1 (lay (tab32.map fun z => Value.int .u8 z).toArray)).modify 2 (lay (tab64.map fun z => Value.int .u8 z).toArray) }
theorem laidWorld_met (os : Os) (args : Array Value) : laidMetH Tryd.prog Rows.fnIndexableWidthKeepsTupleKeysWithinValuesRow.laid ((laidWorld Tryd.prog os).forCall (fun _ _ => 0) ⟨#[], args, []⟩).memory :=
  have h : laidMet Tryd.prog Rows.fnIndexableWidthKeepsTupleKeysWithinValuesRow.laid ((laidWorld Tryd.prog os).forCall (fun _ _ => 0) ⟨#[], args, []⟩).memory := laidMet_of_run' 8 (by kernel_rfl) (by kernel_rfl)
  h

set_option maxRecDepth 100000 in
theorem lifted (os : Os) (started : os.Started) (H : Type) (enc : TypeId × Value → H) :
    ReturnsInHanded {} Tryd.checked os 4 .any (fun w args => (Rows.fnIndexableWidthKeepsTupleKeysWithinValuesSpec.pre enc Tryd.prog Tryd.f4 [] false w args ∧ laidMetH Tryd.prog Rows.fnIndexableWidthKeepsTupleKeysWithinValuesRow.laid w) ∧ sizedMet enc Tryd.prog Tryd.f4 (OpenSpec.ofChange Rows.fnIndexableWidthKeepsTupleKeysWithinValuesSpec) false w args)
      (Rows.fnIndexableWidthKeepsTupleKeysWithinValuesSpec.post enc Tryd.prog Tryd.f4 false true false false) := by
  refine returnsInHanded_of_change_and (C := Tryd.checked) (X := fun w _ => laidMetH Tryd.prog Rows.fnIndexableWidthKeepsTupleKeysWithinValuesRow.laid w) (fun _ _ _ hh h => h.of_heap hh) own started (by kernel_rfl) Tryd.func4
    (ChangeSpec.witness_at (enc := enc) (C := Tryd.checked) (os := os) (X := fun w _ => laidMetH Tryd.prog Rows.fnIndexableWidthKeepsTupleKeysWithinValuesRow.laid w) false (laidWorld Tryd.prog os) #[.slice none 0 0, .int .i64 0] 8 rfl (by kernel_rfl) (by kernel_rfl) (by kernel_rfl) (by kernel_rfl) (by kernel_rfl) (laidWorld_met os _)) ?_
  intro W base args ds gs before hval0 hW _ _ hL _
  have hval : ∀ (j : Nat) t v, Tryd.f4.params[j]? = some t → args[j]? = some v → Value.okWide Tryd.prog W .any base t v := hval0
  have hW' := hW
  obtain ⟨p, q, hA0, hV, rfl, hfz, hnd⟩ := hW
  have hA : DataW.TrodAll enc Tryd.prog W 0 (fun _ => true) true Tryd.f4.params.toList args.toList ds p := hA0
  rw [Tryd.params4] at hA hval
  obtain ⟨v0, vs0, d0', ds0, p0, q0, hargs, rfl, rfl, h0, r0⟩ := trodAll_cons hA
  obtain ⟨v1, vs1, d1, ds1, p1, q1, rfl, rfl, rfl, h1, r1⟩ := trodAll_cons r0
  obtain ⟨rfl, rfl, rfl⟩ := trodAll_nil r1
  obtain rfl : args = #[v0, v1] := by cases args; simp_all
  obtain ⟨rfl, rfl⟩ := trodVars_none hV
  obtain ⟨ad, N, cd, rfl⟩ := okWide_slice Tryd.underlying22 (hval 0 22 v0 rfl rfl)
  have k0 := h0
  have lt0 : ∀ x ∈ p0, x.block < W.heap.size := by obtain ⟨m, hm⟩ := k0; exact DataW.trod_lt m _ _ _ hm
  obtain ⟨a1, rfl, rfl, rfl, w1⟩ := open_int Tryd.underlying3 (hval 1 3 v1 rfl rfl) h1
  obtain ⟨dl, hin⟩ : ∃ dl, SIn W ad N dl := by
    obtain ⟨f0, hf0⟩ := h0
    exact open_lists hf0
  clear hA0 hval0
  refine (law_calls ad N cd dl a1 W hin (Lib.tabBelow_of_tabIs (tab_of_laid hL))).mono fun e W' ⟨he, bel⟩ => ?_
  subst he
  exact ⟨_, rfl, _, _, _, [], _, [], hW', trodAll_mk1 (shut_bool Tryd.underlying4 _), (trodAll_cons_mk (Below.trod laidOut (by kernel_rfl) (of_decide_eq_true (by kernel_rfl)) k0 bel lt0) (trodAll_cons_mk (shut_int Tryd.underlying3 w1) trodAll_mk0)), rfl, bel.frame _, fun h => by cases h⟩

theorem row_holds : Rows.FnIndexableWidthKeepsTupleKeysWithinValuesSaid :=
  OpenClaim.holds_of_wide 4 Tryd.f4 rfl rfl rfl rfl rfl rfl rfl ⟨rfl, rfl, rfl, rfl, rfl⟩ rfl rfl rfl rfl rfl (by kernel_rfl) Tryd.func4 (by kernel_rfl)
    (of_decide_eq_true (by kernel_rfl)) (by unfold Func.isWrapper; first | (rw [if_pos (by decide +kernel)]; kernel_rfl) | (rw [if_neg (by decide +kernel)]; exact ⟨rfl, rfl⟩))
    (fun os started H enc _ => lifted os started H enc)
#print axioms row_holds

theorem proved : Rows.FnIndexableWidthKeepsTupleKeysWithinValuesCardSaid :=
  Claim7.holds_tied_plain_at .later [] [.data, .data, .data] true (true, "7025207fb41c15235529243870b14cdd95d7f62c3e9dccb0d8fe341477d8403c") false
    row_holds (fun _ h => by cases h) (by kernel_rfl) (fun _ h => by cases h) fnIndexableWidthKeepsTupleKeysWithinValues_row_tie rfl ⟨rfl, rfl⟩ (by kernel_rfl) rfl
    (fun f fn hf hfn => by
      obtain rfl : f = 4 := Option.some.inj ((show Tryd.prog.funcNamed Rows.fnIndexableWidthKeepsTupleKeysWithinValuesRow.func = some 4 by kernel_rfl).symm.trans hf) |>.symm
      obtain rfl : fn = Tryd.f4 := (Option.some.inj (Tryd.func4.symm.trans hfn)).symm
      exact ⟨by kernel_rfl, fun j t ht => by
        rw [Tryd.params4] at ht
        rcases j with _ | _ | j
        · obtain rfl : t = 22 := by simpa using ht.symm
          exact (show Tryd.prog.wantsStandIn 22 = false by kernel_rfl)
        · obtain rfl : t = 3 := by simpa using ht.symm
          exact (show Tryd.prog.wantsStandIn 3 = false by kernel_rfl)
        · simp at ht⟩)
    (by kernel_rfl)
#print axioms proved
end Go.Proofs.Qxb6603132aDoor.fnIndexableWidthKeepsTupleKeysWithinValues
