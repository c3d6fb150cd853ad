/-
  The arguments of the two laws on deliveryPlaces, opened: a slice of integers, a slice of such slices.
-/
import Derived.Test.Qxb6601966aIgnore
import Derived.ProofKit
import Derived.OpenShut
import Derived.ChangeOld
import Derived.Below
import Derived.Deep.Matrix
namespace Go.Proofs.Qxb6601966a
open Go.ChangeShapes Go.WideShapes Go.ChangeAt Go.RowKit Go.Deep

theorem rdl_of {W : World} {x : Addr} {zs : List Int} {n : Nat} (hn : n ≤ zs.length) (hc : ∀ i, i < zs.length → W.cell? (x.add i) = some (.int .i64 (zs.getD i 0))) : RdL W.heap.size W (some x) (zs.take n) := by
  intro hp
  have hp' : 0 < n := by rw [List.length_take] at hp; omega
  obtain ⟨b, off, spot⟩ := x
  have hspot : spot = none := by simpa [Addr.add] using World.cell?_spot (hc 0 (by omega))
  subst hspot
  have hc' : ∀ i, i < zs.length → W.cell? ⟨b, off + i, none⟩ = some (.int .i64 (zs.getD i 0)) := fun i hi => by rw [← Go.WideShapes.add_plain]; exact hc i hi
  refine ⟨b, off, rfl, World.block_lt_of_cell? W _ (hc' 0 (by omega)), fun i hi => ?_⟩
  rw [List.length_take] at hi
  rw [hc' i (by omega)]
  simp [show i < n by omega]

theorem open_members {H : Type} {enc : TypeId × Value → H} {W : World} {am : Option Addr} {K cm fuel : Nat} {x : DataW H × List MemPlace} (h : DataW.trod enc Try.prog W 0 (fun _ => true) true fuel 22 [.slice am K cm] = some x) :
    ∃ mz : List Int, K = mz.length ∧ RdL W.heap.size W am mz ∧ (am = none → mz = []) ∧ K ≤ maxLen := by
  rcases open_ints Try.underlying22 Try.underlying3 (by kernel_rfl) h with ⟨hcs, _⟩ | ⟨x, l, c, zs, hcs, _, hl, hm, hz, _, hcell, hwz⟩
  · simp at hcs
    obtain ⟨rfl, rfl, rfl⟩ := hcs
    exact ⟨[], rfl, RdL.nil, fun _ => rfl, Nat.zero_le _⟩
  · simp at hcs
    obtain ⟨rfl, rfl, rfl⟩ := hcs
    simp only [if_true] at hz
    exact ⟨zs.take K, by rw [List.length_take]; omega, rdl_of (by omega) hcell, fun e => (by cases e), by omega⟩

theorem open_logs {H : Type} {enc : TypeId × Value → H} {W : World} {ad : Option Addr} {D cd fuel : Nat} {x : DataW H × List MemPlace} (h : DataW.trod enc Try.prog W 0 (fun _ => true) true fuel 40 [.slice ad D cd] = some x) :
    ∃ dl : List Inn, D = dl.length ∧ DRd W.heap.size W ad dl ∧ (ad = none → dl = []) ∧ (∀ j, (dl.getD j d0).a = none → (dl.getD j d0).zs = []) ∧ (∀ j, (dl.getD j d0).zs.length ≤ maxLen) ∧ D ≤ maxLen := by
  rcases open_int_rows Try.underlying40 Try.underlying22 Try.underlying3 (by kernel_rfl) (by kernel_rfl) h with ⟨hcs, _⟩ | ⟨a, len, cap, A, L, C, Z, hcs, _, hl, hm, _, hr⟩
  · simp at hcs
    obtain ⟨rfl, rfl, rfl⟩ := hcs
    exact ⟨[], rfl, fun hp => by simp at hp, fun _ => rfl, fun j _ => by simp [d0], fun j => by simp [d0], Nat.zero_le _⟩
  · simp at hcs
    obtain ⟨rfl, rfl, rfl⟩ := hcs
    have hget : ∀ j, j < D → ((List.range D).map (fun r => Inn.mk (A r) (C r) ((Z r).take (L r)))).getD j d0 = Inn.mk (A j) (C j) ((Z j).take (L j)) := fun j hj => by simp [hj]
    have hout : ∀ j, ¬ j < D → ((List.range D).map (fun r => Inn.mk (A r) (C r) ((Z r).take (L r)))).getD j d0 = d0 := fun j hj => by
      rw [List.getD_eq_getElem?_getD, List.getElem?_eq_none (by simp; omega), Option.getD_none]
    refine ⟨(List.range D).map (fun r => Inn.mk (A r) (C r) ((Z r).take (L r))), by simp, fun hp => ?_, fun e => (by cases e), fun j hj => ?_, fun j => ?_, by omega⟩
    · have hD : 0 < D := by simpa using hp
      obtain ⟨b, off, spot⟩ := a
      have hspot : spot = none := by simpa [Addr.add] using World.cell?_spot (hr 0 (by omega)).1
      subst hspot
      have hc' : ∀ r, r < D → W.cell? ⟨b, off + r, none⟩ = some (.slice (A r) (L r) (C r)) := fun r hr' => by rw [← Go.WideShapes.add_plain]; exact (hr r (by omega)).1
      refine ⟨b, off, rfl, World.block_lt_of_cell? W _ (hc' 0 hD), fun m hmm => ?_⟩
      have hmD : m < D := by simpa using hmm
      rw [hget m hmD]
      obtain ⟨_, g1, g2, g3, _, g5, g6⟩ := hr m (by omega)
      refine ⟨?_, ?_⟩
      · rw [hc' m hmD]
        unfold Inn.v
        simp only [List.length_take]
        rw [Nat.min_eq_left (by omega)]
      · cases hA : A m with
        | none =>
          have := g5 hA
          have hz : Z m = [] := List.eq_nil_of_length_eq_zero (by omega)
          intro hp2
          simp [hz] at hp2
        | some a' => exact rdl_of (by omega) (fun i hi => (g6 a' hA).2 i (by omega))
    · by_cases hjD : j < D
      · rw [hget j hjD] at hj ⊢
        obtain ⟨_, g1, g2, g3, _, g5, _⟩ := hr j (by omega)
        have := g5 hj
        have hz : Z j = [] := List.eq_nil_of_length_eq_zero (by omega)
        simp [hz]
      · rw [hout j hjD]
        rfl
    · by_cases hjD : j < D
      · rw [hget j hjD]
        obtain ⟨_, g1, g2, g3, _⟩ := hr j (by omega)
        simp only [List.length_take]
        omega
      · rw [hout j hjD]
        exact Nat.zero_le _

end Go.Proofs.Qxb6601966a
