/-
  THE PROOF OF 'Rows.FnInternNumbersNamesByFirstArrivalSaid': the frame after the guide's shells, turned to a slice of strings; the walk: InternLaw.
-/
import Derived.Test.Qxb6601966aRows
import Derived.Test.Qxb6601966aInternLaw
import Derived.WalkKit
import Derived.ProofKit
import Derived.OpenShut
import Derived.ShutString
import Derived.ChangeOld
import Derived.Below
import Derived.SliceStrings
namespace Go.Proofs.Qxb6601966a.fnInternNumbersNamesByFirstArrival
open Go.ChangeShapes Go.WideShapes Go.ChangeAt Go.RowKit
open Go.ChangeMaps (open_string shut_string)
set_option linter.unusedVariables false

theorem own : ownKnob Try.prog.godebug = none := by kernel_rfl
theorem laidOut : laidOutB Try.prog = true := by kernel_rfl

/-- What the walk is told of a slice of strings that came in. -/
def IsRowS (w : World) (a : Option Addr) (len cap : Nat) (ss : List ByteArray) : Prop :=
  (a = none ∧ len = 0 ∧ cap = 0 ∧ ss = []) ∨
  ∃ x, a = some x ∧ len ≤ cap ∧ cap ≤ maxLen ∧ ss.length = cap ∧ (∀ i, i < ss.length → w.cell? (x.add i) = some (.string (ss.getD i ByteArray.empty))) ∧ ∀ s ∈ ss, s.size ≤ maxLen

theorem row_nrd {w : World} {a : Option Addr} {len cap : Nat} {ss : List ByteArray} (h : IsRowS w a len cap ss) : len ≤ maxLen ∧ (ss.take len).length = len ∧ NRd w a (ss.take len) ∧ ∀ s ∈ ss.take len, s.size ≤ maxLen := by
  rcases h with ⟨_, rfl, _, rfl⟩ | ⟨x, rfl, h1, h2, h3, hc, hw⟩
  · exact ⟨Nat.zero_le _, rfl, fun hp => by simp at hp, fun s hs => by simp at hs⟩
  · refine ⟨by omega, by rw [List.length_take]; omega, fun hp => ?_, fun s hs => hw s (List.mem_of_mem_take hs)⟩
    have hlen : 0 < len := by simp at hp; omega
    obtain ⟨b, off, spot⟩ := x
    have hspot : spot = none := by simpa [Addr.add] using World.cell?_spot (hc 0 (by omega))
    subst hspot
    have hc' : ∀ i, i < ss.length → w.cell? ⟨b, off + i, none⟩ = some (.string (ss.getD i ByteArray.empty)) := fun i hi => by rw [← Go.WideShapes.add_plain]; exact hc i hi
    refine ⟨b, off, rfl, World.block_lt_of_cell? w _ (hc' 0 (by omega)), fun i hi => ?_⟩
    rw [List.length_take] at hi
    rw [hc' i (by omega)]
    simp [show i < len by omega]

set_option maxRecDepth 100000 in
theorem walk (a0 : Option Addr) (len0 cap0 : Nat) (z0 : List ByteArray) (w : World) (w0 : IsRowS w a0 len0 cap0 z0) :
    Calls Try.prog 5 #[.slice a0 len0 cap0] w fun e w' => e = .returned (.bool true) ∧ Below w.heap.size w w' := by
  obtain ⟨m0, l0, r0, f0⟩ := row_nrd w0
  by_cases h : len0 ≤ 65536
  · exact intern_main a0 len0 cap0 (z0.take len0) w l0.symm h r0 f0
  · have hby := hide2 (bytes_intern a0 len0 cap0 (z0.take len0) w l0.symm m0 r0 f0)
    unfold maxLen at m0
    clear w0 l0 r0 f0
    go_enter Try.func5, Try.ntmps5
    go_wp2_with (go_at_call 14; go_must (refine hby.out.mono ?_); rintro e w1 ⟨⟨b, rfl⟩, rfl⟩; cases b)
    all_goals
      go_ret
      exact ⟨rfl, Below.refl _ _⟩

set_option maxRecDepth 100000 in
theorem lifted (os : Os) (started : os.Started) (H : Type) (enc : TypeId × Value → H) :
    ReturnsInHanded {} Try.checked os 5 .any (Rows.fnInternNumbersNamesByFirstArrivalSpec.pre6 enc Try.prog Try.f5 Rows.fnInternNumbersNamesByFirstArrivalRow.domain false) (Rows.fnInternNumbersNamesByFirstArrivalSpec.post enc Try.prog Try.f5 false true false false) := by
  refine returnsInHanded_of_change (C := Try.checked) own started (by kernel_rfl) Try.func5
    (ChangeSpec.witness6 (enc := enc) (C := Try.checked) false ⟨#[], #[.slice none 0 0], []⟩ 8 (by kernel_rfl) (by kernel_rfl) (by kernel_rfl) (by kernel_rfl)) ?_
  intro W base args ds gs before hval0 hW hcnd _
  have hval : ∀ (j : Nat) t v, Try.f5.params[j]? = some t → args[j]? = some v → Value.okWide Try.prog W .any base t v := hval0
  have hW' := hW
  obtain ⟨p, q, hA0, hV, rfl, hfz, hnd⟩ := hW
  have hA : DataW.TrodAll enc Try.prog W 0 (fun _ => true) true Try.f5.params.toList args.toList ds p := hA0
  rw [Try.params5] at hA hval
  obtain ⟨v0, vs0, d0, ds0, p0, q0, hargs, rfl, rfl, h0, r0⟩ := trodAll_cons hA
  obtain ⟨rfl, rfl, rfl⟩ := trodAll_nil r0
  obtain rfl : args = #[v0] := by cases args; simp_all
  obtain ⟨rfl, rfl⟩ := trodVars_none hV
  obtain ⟨a0, len0, cap0, rfl⟩ := okWide_slice Try.underlying34 (hval 0 34 v0 rfl rfl)
  have k0 := h0
  have lt0 : ∀ x ∈ p0, x.block < W.heap.size := by obtain ⟨m, hm⟩ := k0; exact DataW.trod_lt m _ _ _ hm
  obtain ⟨z0, w0⟩ : ∃ ss, IsRowS W a0 len0 cap0 ss := by
    obtain ⟨fuel, hf⟩ := h0
    rcases open_strings Try.underlying34 Try.underlying9 (by kernel_rfl) hf with ⟨hcs, _⟩ | ⟨x, l, c, ss, hcs, _, hl, hm, hz, _, hcell, hws⟩
    · simp [Value.cells] at hcs
      obtain ⟨rfl, rfl, rfl⟩ := hcs
      exact ⟨[], .inl ⟨rfl, rfl, rfl, rfl⟩⟩
    · simp [Value.cells] at hcs
      obtain ⟨rfl, rfl, rfl⟩ := hcs
      exact ⟨ss, .inr ⟨_, rfl, hl, hm, by simpa using hz, hcell, hws⟩⟩
  clear hA0 hval0
  refine (walk a0 len0 cap0 z0 W w0).mono fun e W' ⟨he, bel⟩ => ?_
  subst he
  exact ⟨_, rfl, _, _, _, [], _, [], hW', trodAll_mk1 (shut_bool Try.underlying4 _), (trodAll_cons_mk (Below.trod laidOut (by kernel_rfl) (of_decide_eq_true (by kernel_rfl)) k0 bel lt0) trodAll_mk0), rfl, bel.frame _, fun h => by cases h⟩

theorem over : Rows.fnInternNumbersNamesByFirstArrivalRow.holds Try.pinned (OpenSpec.ofChange Rows.fnInternNumbersNamesByFirstArrivalSpec) :=
  OpenClaim.holds_of_wide 5 Try.f5 rfl rfl rfl rfl rfl rfl rfl ⟨rfl, rfl, rfl, rfl, rfl⟩ rfl rfl rfl rfl rfl (by kernel_rfl) Try.func5 (by kernel_rfl)
    (of_decide_eq_true (by kernel_rfl)) (by unfold Func.isWrapper; first | (rw [if_pos (by decide +kernel)]; kernel_rfl) | (rw [if_neg (by decide +kernel)]; exact ⟨rfl, rfl⟩))
    (fun os started H enc _ => lifted os started H enc)

theorem proved : Rows.FnInternNumbersNamesByFirstArrivalSaid := over
#print axioms proved
end Go.Proofs.Qxb6601966a.fnInternNumbersNamesByFirstArrival
