/-
  The law's argument of type [][]string, opened.
-/
import Derived.Test.Qxb6603132aFit
import Derived.ProofKit
import Derived.OpenShut
import Derived.ChangeOld
import Derived.Below
import Derived.SliceStrings
import Derived.Deep.Slices
import Derived.Deep.Matrix
namespace Go.Proofs.Qxb6603132a
open Go.ChangeShapes Go.WideShapes Go.ChangeAt Go.RowKit Go.Deep

theorem srd_of {W : World} {x : Addr} {zs : List ByteArray} {n : Nat} (hn : n ≤ zs.length) (hc : ∀ i, i < zs.length → W.cell? (x.add i) = some (.string (zs.getD i ByteArray.empty))) : SRd W.heap.size W (some x) (zs.take n) := by
  intro hp
  have hp' : 0 < n := by rw [List.length_take] at hp; omega
  obtain ⟨b, off, spot⟩ := x
  have hspot : spot = none := by simpa [Addr.add] using World.cell?_spot (hc 0 (by omega))
  subst hspot
  have hc' : ∀ i, i < zs.length → W.cell? ⟨b, off + i, none⟩ = some (.string (zs.getD i ByteArray.empty)) := fun i hi => by rw [← Go.WideShapes.add_plain]; exact hc i hi
  refine ⟨b, off, rfl, World.block_lt_of_cell? W _ (hc' 0 (by omega)), fun i hi => ?_⟩
  rw [List.length_take] at hi
  rw [hc' i (by omega)]
  simp [show i < n by omega]

/-- What is known of one row. -/
structure RowIn (W : World) (v : Value) (y : InS) : Prop where
  v : v = .slice y.a y.ss.length y.c
  rd : SRd W.heap.size W y.a y.ss
  nil : y.a = none → y.ss = []
  len : y.ss.length ≤ maxLen
  str : ∀ i, (y.ss.getD i ByteArray.empty).size ≤ maxLen

theorem open_row1 {H : Type} {enc : TypeId × Value → H} {W : World} {v : Value} {fuel : Nat} {x : DataW H × List MemPlace} (h : DataW.trod enc Try.prog W 0 (fun _ => true) true fuel 38 [v] = some x) : ∃ y, RowIn W v y := by
  rcases open_strings Try.underlying38 Try.underlying9 (by kernel_rfl) h with ⟨hcs, _⟩ | ⟨a, len, cap, ss, hcs, _, hl, hm, hz, _, hcell, hs⟩
  · simp at hcs
    exact ⟨⟨none, 0, []⟩, hcs, fun hp => by simp at hp, fun _ => rfl, Nat.zero_le _, fun i => by simp⟩
  · simp at hcs
    simp only [if_true] at hz
    refine ⟨⟨some a, cap, ss.take len⟩, ?_, srd_of (by omega) hcell, fun e => (by cases e), ?_, fun i => ?_⟩
    · rw [hcs]
      simp only [List.length_take]
      rw [Nat.min_eq_left (by omega)]
    · simp only [List.length_take]
      omega
    · show ((ss.take len).getD i ByteArray.empty).size ≤ maxLen
      by_cases hi : i < (ss.take len).length
      · rw [List.getD_eq_getElem?_getD, List.getElem?_eq_getElem hi, Option.getD_some]
        exact hs _ (List.mem_of_mem_take (List.getElem_mem hi))
      · rw [List.getD_eq_getElem?_getD, List.getElem?_eq_none (by omega), Option.getD_none]
        exact Nat.zero_le _

theorem open_lists {H : Type} {enc : TypeId × Value → H} {W : World} {ad : Option Addr} {N cd fuel : Nat} {x : DataW H × List MemPlace} (h : DataW.trod enc Try.prog W 0 (fun _ => true) true fuel 22 [.slice ad N cd] = some x) :
    ∃ dl : List InS, SIn W ad N dl := by
  rcases open_slice1 Try.underlying22 (by kernel_rfl) h with ⟨hcs, _⟩ | ⟨a, len, cap, m, n, V, D, Pl, hcs, _, hl, hm, hmm, _, hr⟩
  · simp at hcs
    obtain ⟨rfl, rfl, rfl⟩ := hcs
    exact ⟨[], rfl, fun hp => by simp at hp, fun _ => rfl, fun j _ => by simp [s0], fun j => by simp [s0], fun j i => by simp [s0], Nat.zero_le _⟩
  · simp at hcs
    obtain ⟨rfl, rfl, rfl⟩ := hcs
    simp only [if_true] at hmm
    subst hmm
    have inh : Inhabited InS := ⟨s0⟩
    obtain ⟨Y, hY⟩ := choose_lt (α := InS) (p := fun r y => RowIn W (V r) y) (n := m) (fun r hr' => open_row1 (hr r hr').2)
    have hget : ∀ j, j < N → ((List.range N).map Y).getD j s0 = Y j := fun j hj => by simp [hj]
    have hout : ∀ j, ¬ j < N → ((List.range N).map Y).getD j s0 = s0 := fun j hj => by
      rw [List.getD_eq_getElem?_getD, List.getElem?_eq_none (by simp; omega), Option.getD_none]
    refine ⟨(List.range N).map Y, by simp, fun hp => ?_, fun e => (by cases e), fun j hj => ?_, fun j => ?_, fun j i => ?_, by omega⟩
    · have hD : 0 < N := by simpa using hp
      obtain ⟨b, off, spot⟩ := a
      have hspot : spot = none := by simpa [Addr.add] using World.cell?_spot (hr 0 (by omega)).1
      subst hspot
      have hc' : ∀ r, r < N → W.cell? ⟨b, off + r, none⟩ = some (V r) := fun r hr' => by rw [← Go.WideShapes.add_plain]; exact (hr r (by omega)).1
      refine ⟨b, off, rfl, World.block_lt_of_cell? W _ (hc' 0 hD), fun m' hmm => ?_⟩
      have hmD : m' < N := by simpa using hmm
      rw [hget m' hmD]
      exact ⟨(hc' m' hmD).trans (congrArg some (hY m' (by omega)).v), (hY m' (by omega)).rd⟩
    · by_cases hjD : j < N
      · rw [hget j hjD] at hj ⊢
        exact (hY j (by omega)).nil hj
      · rw [hout j hjD]
        rfl
    · by_cases hjD : j < N
      · rw [hget j hjD]
        exact (hY j (by omega)).len
      · rw [hout j hjD]
        exact Nat.zero_le _
    · by_cases hjD : j < N
      · rw [hget j hjD]
        exact (hY j (by omega)).str i
      · rw [hout j hjD]
        simp [s0]

end Go.Proofs.Qxb6603132a
