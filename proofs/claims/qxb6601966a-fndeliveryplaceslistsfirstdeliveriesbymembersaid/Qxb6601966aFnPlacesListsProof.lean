/-
  THE PROOF OF 'Rows.FnDeliveryPlacesListsFirstDeliveriesByMemberSaid': the frame after the guide's shells, turned to an int, a slice of integers and a slice of such slices; the walk: 'lists_main'.
-/
import Derived.Test.Qxb6601966aRows
import Derived.Test.Qxb6601966aDpOpen
import Derived.Test.Qxb6601966aLists
import Derived.WalkKit
import Derived.ProofKit
import Derived.OpenShut
import Derived.ShutString
import Derived.ChangeOld
import Derived.Below
namespace Go.Proofs.Qxb6601966a.fnDeliveryPlacesListsFirstDeliveriesByMember
open Go.ChangeShapes Go.WideShapes Go.ChangeAt Go.RowKit
set_option linter.unusedVariables false

theorem own : ownKnob Try.prog.godebug = none := by kernel_rfl
theorem laidOut : laidOutB Try.prog = true := by kernel_rfl

set_option maxRecDepth 100000 in
set_option maxHeartbeats 1000000 in
/-- Outside the bounds of the law: true, and nothing is written. -/
theorem short (x : Int) (am ad : Option Addr) (K cm D cd : Nat) (dl : List Inn) (mz : List Int) (w : World) (hx : (Lit.int .i64 x).wf = true) (hin : DIn w am ad K D dl mz) (h : ¬ (0 ≤ x ∧ x ≤ 65536 ∧ K ≤ 131072 ∧ D ≤ 131072)) :
    Calls Try.prog 7 #[.int .i64 x, .slice am K cm, .slice ad D cd] w fun e w' => e = .returned (.bool true) ∧ Below w.heap.size w w' := by
  have hby := hide3 (bytes_lists x am ad K cm D cd dl w hin.km hin.d hin.dm hin.dr hin.len)
  have k1 := hin.km
  have k2 := hin.dm
  unfold maxLen at k1 k2
  clear hin
  by_cases h0 : 0 ≤ x
  · by_cases h1 : x ≤ 65536
    · by_cases h2 : (K : Int) ≤ 131072
      · have h3 : ¬ (D : Int) ≤ 131072 := by omega
        clear h
        go_enter Try.func7, Try.ntmps7
        go_wp2_with fail
        refine hby.out.mono ?_
        rintro e w1 ⟨⟨b, rfl⟩, rfl⟩
        cases b <;> (go_wp2; go_ret; exact ⟨rfl, Below.refl _ _⟩)
      · clear h
        go_enter Try.func7, Try.ntmps7
        go_wp2_with fail
        refine hby.out.mono ?_
        rintro e w1 ⟨⟨b, rfl⟩, rfl⟩
        cases b <;> (go_wp2; go_ret; exact ⟨rfl, Below.refl _ _⟩)
    · clear h
      go_enter Try.func7, Try.ntmps7
      go_wp2_with fail
      refine hby.out.mono ?_
      rintro e w1 ⟨⟨b, rfl⟩, rfl⟩
      cases b <;> (go_wp2; go_ret; exact ⟨rfl, Below.refl _ _⟩)
  · clear h
    go_enter Try.func7, Try.ntmps7
    go_wp2_with fail
    refine hby.out.mono ?_
    rintro e w1 ⟨⟨b, rfl⟩, rfl⟩
    cases b <;> (go_wp2; go_ret; exact ⟨rfl, Below.refl _ _⟩)

theorem walk (x : Int) (am ad : Option Addr) (K cm D cd : Nat) (dl : List Inn) (mz : List Int) (w : World) (hx : (Lit.int .i64 x).wf = true) (hin : DIn w am ad K D dl mz) :
    Calls Try.prog 7 #[.int .i64 x, .slice am K cm, .slice ad D cd] w fun e w' => e = .returned (.bool true) ∧ Below w.heap.size w w' := by
  by_cases h : 0 ≤ x ∧ x ≤ 65536 ∧ K ≤ 131072 ∧ D ≤ 131072
  · obtain ⟨h0, h1, h2, h3⟩ := h
    obtain ⟨n, rfl⟩ : ∃ n : Nat, x = (n : Int) := ⟨x.toNat, by omega⟩
    exact lists_main n K D cm cd am ad dl mz w (by omega) h2 h3 hin
  · exact short x am ad K cm D cd dl mz w hx hin h

set_option maxRecDepth 100000 in
theorem lifted (os : Os) (started : os.Started) (H : Type) (enc : TypeId × Value → H) :
    ReturnsInHanded {} Try.checked os 7 .any (Rows.fnDeliveryPlacesListsFirstDeliveriesByMemberSpec.pre6 enc Try.prog Try.f7 Rows.fnDeliveryPlacesListsFirstDeliveriesByMemberRow.domain false) (Rows.fnDeliveryPlacesListsFirstDeliveriesByMemberSpec.post enc Try.prog Try.f7 false true false false) := by
  refine returnsInHanded_of_change (C := Try.checked) own started (by kernel_rfl) Try.func7
    (ChangeSpec.witness6 (enc := enc) (C := Try.checked) false ⟨#[], #[.int .i64 0, .slice none 0 0, .slice none 0 0], []⟩ 8 (by kernel_rfl) (by kernel_rfl) (by kernel_rfl) (by kernel_rfl)) ?_
  intro W base args ds gs before hval0 hW hcnd _
  have hval : ∀ (j : Nat) t v, Try.f7.params[j]? = some t → args[j]? = some v → Value.okWide Try.prog W .any base t v := hval0
  have hW' := hW
  obtain ⟨p, q, hA0, hV, rfl, hfz, hnd⟩ := hW
  have hA : DataW.TrodAll enc Try.prog W 0 (fun _ => true) true Try.f7.params.toList args.toList ds p := hA0
  rw [Try.params7] at hA hval
  obtain ⟨v0, vs0, d0', ds0, p0, q0, hargs, rfl, rfl, h0, r0⟩ := trodAll_cons hA
  obtain ⟨v1, vs1, d1, ds1, p1, q1, rfl, rfl, rfl, h1, r1⟩ := trodAll_cons r0
  obtain ⟨v2, vs2, d2, ds2, p2, q2, rfl, rfl, rfl, h2, r2⟩ := trodAll_cons r1
  obtain ⟨rfl, rfl, rfl⟩ := trodAll_nil r2
  obtain rfl : args = #[v0, v1, v2] := by cases args; simp_all
  obtain ⟨rfl, rfl⟩ := trodVars_none hV
  obtain ⟨a0, rfl, rfl, rfl, w0⟩ := open_int Try.underlying3 (hval 0 3 v0 rfl rfl) h0
  obtain ⟨am, K, cm, rfl⟩ := okWide_slice Try.underlying22 (hval 1 22 v1 rfl rfl)
  have k1 := h1
  have lt1 : ∀ x ∈ p1, x.block < W.heap.size := by obtain ⟨m, hm⟩ := k1; exact DataW.trod_lt m _ _ _ hm
  obtain ⟨ad, D, cd, rfl⟩ := okWide_slice Try.underlying40 (hval 2 40 v2 rfl rfl)
  have k2 := h2
  have lt2 : ∀ x ∈ p2, x.block < W.heap.size := by obtain ⟨m, hm⟩ := k2; exact DataW.trod_lt m _ _ _ hm
  obtain ⟨dl, mz, hin⟩ : ∃ dl mz, DIn W am ad K D dl mz := by
    obtain ⟨f1, hf1⟩ := h1
    obtain ⟨f2, hf2⟩ := h2
    obtain ⟨mz, m1, m2, m3, m4⟩ := open_members hf1
    obtain ⟨dl, n1, n2, n3, n4, n5, n6⟩ := open_logs hf2
    exact ⟨dl, mz, ⟨m1, n1, m2, m3, n2, n3, n4, n5, m4, n6⟩⟩
  clear hA0 hval0
  refine (walk a0 am ad K cm D cd dl mz W w0 hin).mono fun e W' ⟨he, bel⟩ => ?_
  subst he
  exact ⟨_, rfl, _, _, _, [], _, [], hW', trodAll_mk1 (shut_bool Try.underlying4 _), (trodAll_cons_mk (shut_int Try.underlying3 w0) (trodAll_cons_mk (Below.trod laidOut (by kernel_rfl) (of_decide_eq_true (by kernel_rfl)) k1 bel lt1) (trodAll_cons_mk (Below.trod laidOut (by kernel_rfl) (of_decide_eq_true (by kernel_rfl)) k2 bel lt2) trodAll_mk0))), rfl, bel.frame _, fun h => by cases h⟩

theorem over : Rows.fnDeliveryPlacesListsFirstDeliveriesByMemberRow.holds Try.pinned (OpenSpec.ofChange Rows.fnDeliveryPlacesListsFirstDeliveriesByMemberSpec) :=
  OpenClaim.holds_of_wide 7 Try.f7 rfl rfl rfl rfl rfl rfl rfl ⟨rfl, rfl, rfl, rfl, rfl⟩ rfl rfl rfl rfl rfl (by kernel_rfl) Try.func7 (by kernel_rfl)
    (of_decide_eq_true (by kernel_rfl)) (by unfold Func.isWrapper; first | (rw [if_pos (by decide +kernel)]; kernel_rfl) | (rw [if_neg (by decide +kernel)]; exact ⟨rfl, rfl⟩))
    (fun os started H enc _ => lifted os started H enc)

theorem proved : Rows.FnDeliveryPlacesListsFirstDeliveriesByMemberSaid := over
#print axioms proved
end Go.Proofs.Qxb6601966a.fnDeliveryPlacesListsFirstDeliveriesByMember
