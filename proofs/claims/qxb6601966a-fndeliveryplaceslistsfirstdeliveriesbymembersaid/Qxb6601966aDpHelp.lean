/-
  make and copy at the calls of the two laws on deliveryPlaces, told by cells.
-/
import Derived.Test.Qxb6601966aDpParts
import Derived.OwnWalk
namespace Go.Proofs.Qxb6601966a
open Go Go.RowKit

/-- The n cells of block b hold z, and may be written. -/
def AllAt (w : World) (b n : Nat) (z : Value) : Prop := ∀ x, x < n → w.cell? ⟨b, x, none⟩ = some z ∧ w.frozen? ⟨b, x, none⟩ = false

theorem AllAt.row {w : World} {b n : Nat} (h : AllAt w b n (.int .i64 0)) : RowAt w b n (fun _ => 0) := h

/-- copy onto a row that is known: the run's equation. -/
theorem copy_eq (w : World) (g off N dLen dCap sCap b o2 : Nat) (G : Nat → Int) (zs : List Int) (hg : RowAt w g N G) (hle : zs.length ≤ dLen) (hfit : off + zs.length ≤ N)
    (hsrc : ∀ i, i < zs.length → w.cell? ⟨b, o2 + i, none⟩ = some (.int .i64 (zs.getD i 0))) :
    ∃ w', (∀ ty, (Builtin.copy_ #[22, 22] ty #[.slice (some ⟨g, off, none⟩) dLen dCap, .slice (some ⟨b, o2, none⟩) zs.length sCap]).run Try.prog w = .ok (.int .i64 (zs.length : Int)) w') ∧
      RowAt w' g N (fun x => if off ≤ x ∧ x < off + zs.length then zs.getD (x - off) 0 else G x) ∧ Keeps [g] w w' := by
  have hat : ∀ (j : Nat) (v : Value), (zs.map (Value.int .i64))[j]? = some v → j < zs.length ∧ v = .int .i64 (zs.getD j 0) := by
    intro j v hv
    by_cases hj : j < zs.length
    · simp [hj] at hv
      refine ⟨hj, ?_⟩
      rw [← hv, List.getD_eq_getElem?_getD, List.getElem?_eq_getElem hj, Option.getD_some]
    · simp at hv
      obtain ⟨x, hx, _⟩ := hv
      have := (List.getElem?_eq_some_iff.1 hx).1
      omega
  have hmin : (zs.map (Value.int .i64)).length = Nat.min zs.length dLen := by
    rw [List.length_map]
    exact (Nat.min_eq_left hle).symm
  have hrun := fun ty => run_copy_cells (P := Try.prog) w 22 22 ty 3 g off dLen dCap ⟨b, o2, none⟩ zs.length sCap (zs.map (Value.int .i64)) Try.underlying22 (by kernel_rfl) hmin
    (fun j v hv => by
      obtain ⟨h1, rfl⟩ := hat j v hv
      rw [Addr.add_lit]
      exact hsrc j h1)
    (fun j hj => by rw [List.length_map] at hj; rw [(hg (off + j) (by omega)).1]; rfl) (fun j hj => by rw [List.length_map] at hj; exact (hg (off + j) (by omega)).2)
    (fun v hv => by
      obtain ⟨j, _, rfl⟩ := List.mem_map.1 hv
      rfl)
  refine ⟨w.setCells g off (zs.map (Value.int .i64)), fun ty => by rw [hrun ty, List.length_map]; rfl, fun x hx => ?_, Keeps.setCells (by simp) _ off w w (Keeps.refl _ _)⟩
  obtain ⟨g1, g2⟩ := hg x hx
  refine ⟨?_, by rw [World.frozen?_setCells]; exact g2⟩
  by_cases e : off ≤ x ∧ x < off + zs.length
  · have := World.cell?_setCells_in g (zs.map (Value.int .i64)) off w (fun j hj => by rw [List.length_map] at hj; rw [(hg (off + j) (by omega)).1]; rfl) (x - off) (by rw [List.length_map]; omega)
    rw [show off + (x - off) = x by omega] at this
    rw [this]
    simp only [if_pos e, List.getElem_map]
    rw [List.getD_eq_getElem?_getD, List.getElem?_eq_getElem (by omega), Option.getD_some]
  · rw [World.cell?_setCells_out g _ off w _ (fun _ _ => by simp; omega)]
    simp only [if_neg e]
    exact g1

/-- 'make([]T, n)' of one-cell elements: the run's equation. -/
theorem make_eq (t e : TypeId) (z : Value) (bytes : Nat) (hz : z.cells = #[z]) (h1 : Try.prog.underlying t = some (.slice e)) (hi : (Try.prog.info? e).map (fun i => (i.zero, i.size, i.bytes)) = some (some z, 1, bytes)) (w : World) (n : Nat) (b2 : bytes * n ≤ 281474976710656) (b3 : n ≤ maxLen) :
    ∃ w', (Instr.makeSlice t (.int .i64 (n : Int)) (.int .i64 (n : Int))).run Try.prog w = .ok (.slice (some ⟨w.heap.size, 0, none⟩) n n) w' ∧ AllAt w' w.heap.size n z ∧ Below w.heap.size w w' ∧ w'.heap.size = w.heap.size + 1 := by
  obtain ⟨i0, hi0, hz0, hz1, hz2⟩ := info_parts hi
  have hrun := run_make (P := Try.prog) w t e i0 z h1 hi0 hz0 .i64 .i64 (n : Int) (n : Int) (by omega) (Int.le_refl _) (by rw [hz2]; omega) (by unfold maxLen at b3; omega)
  have hnew := heap_alloc_new w (.cells (madeCells z.cells (n * i0.size)) e)
  refine ⟨_, by simpa using hrun, fun x hx => ⟨?_, ?_⟩, (Below.refl _ _).alloc (Nat.le_refl _) _, by simp⟩
  · rw [cell_of_row _ w.heap.size x _ e _ hnew, hz1, Nat.mul_one]
    have hl2 : (madeCells z.cells n).toList = List.replicate n z := by rw [hz]; exact toList_madeCells_one z n
    rw [← Array.getElem?_toList, hl2]
    simp [hx]
  · simp only [World.frozen?, hnew]
    simp

/-- The members, copied: the equations. -/
theorem memb_eq (w : World) (x : Addr) (c : Nat) (mz : List Int) (hR : RdL w.heap.size w (some x) mz) (hl : mz.length ≤ 131072) :
    ∃ W1 W2, (Instr.makeSlice 22 (.int .i64 (mz.length : Int)) (.int .i64 (mz.length : Int))).run Try.prog w = .ok (.slice (some ⟨w.heap.size, 0, none⟩) mz.length mz.length) W1 ∧
      (∀ ty, (Builtin.copy_ #[22, 22] ty #[.slice (some ⟨w.heap.size, 0, none⟩) mz.length mz.length, .slice (some x) mz.length c]).run Try.prog W1 = .ok (.int .i64 (mz.length : Int)) W2) ∧
      RdL W2.heap.size W2 (some ⟨w.heap.size, 0, none⟩) mz ∧ Below w.heap.size w W2 := by
  obtain ⟨W1, hmk, hA, hB, hS⟩ := make_eq 22 3 (.int .i64 0) 8 rfl Try.underlying22 i3 w mz.length (by omega) (by unfold maxLen; omega)
  by_cases h0 : mz.length = 0
  · refine ⟨W1, W1, hmk, fun ty => ?_, fun hp => by omega, hB⟩
    rw [h0]
    exact run_copy_none (P := Try.prog) W1 22 22 ty 3 _ _ 0 0 0 c Try.underlying22 (by kernel_rfl) (by simp)
  · obtain ⟨b, off, hx, hbl, hc⟩ := hR (by omega)
    cases hx
    obtain ⟨W2, hcp, hR2, hK2⟩ := copy_eq W1 w.heap.size 0 mz.length mz.length mz.length c b off _ mz hA.row (Nat.le_refl _) (by omega) (fun i hi => (hB.cell (p := ⟨b, off + i, none⟩) hbl).trans (hc i hi))
    refine ⟨W1, W2, hmk, hcp, fun _ => ⟨w.heap.size, 0, rfl, by rw [hK2.size]; omega, fun i hi => ?_⟩, hB.trans (hK2.below (by simp))⟩
    have := (hR2 i hi).1
    simp only [if_pos (show 0 ≤ i ∧ i < 0 + mz.length from ⟨Nat.zero_le _, by omega⟩), Nat.sub_zero] at this
    rw [Nat.zero_add]
    exact this

/-- A log, doubled: the equations. -/
theorem twice_eq (w : World) (x : Addr) (c : Nat) (zs : List Int) (hR : RdL w.heap.size w (some x) zs) (hp : 0 < zs.length) (hl : zs.length ≤ 131072) :
    ∃ M W1 W2 W3, M = 2 * zs.length ∧ (Instr.makeSlice 22 (.int .i64 (2 * (zs.length : Int))) (.int .i64 (2 * (zs.length : Int)))).run Try.prog w = .ok (.slice (some ⟨w.heap.size, 0, none⟩) M M) W1 ∧
      (∀ ty, (Builtin.copy_ #[22, 22] ty #[.slice (some ⟨w.heap.size, 0, none⟩) M M, .slice (some x) zs.length c]).run Try.prog W1 = .ok (.int .i64 (zs.length : Int)) W2) ∧
      (∀ ty, (Builtin.copy_ #[22, 22] ty #[.slice (some ⟨w.heap.size, zs.length, none⟩) (M - zs.length) (M - zs.length), .slice (some x) zs.length c]).run Try.prog W2 = .ok (.int .i64 (zs.length : Int)) W3) ∧
      (∀ i, i < M → W3.cell? ⟨w.heap.size, i, none⟩ = some (.int .i64 ((zs ++ zs).getD i 0))) ∧ Below w.heap.size w W3 ∧ W3.heap.size = w.heap.size + 1 := by
  obtain ⟨W1, hmk, hA, hB, hS⟩ := make_eq 22 3 (.int .i64 0) 8 rfl Try.underlying22 i3 w (2 * zs.length) (by omega) (by unfold maxLen; omega)
  obtain ⟨b, off, hx, hbl, hc⟩ := hR hp
  cases hx
  have c1 : ∀ i, i < zs.length → W1.cell? ⟨b, off + i, none⟩ = some (.int .i64 (zs.getD i 0)) := fun i hi => (hB.cell (p := ⟨b, off + i, none⟩) hbl).trans (hc i hi)
  obtain ⟨W2, hcp, hR2, hK2⟩ := copy_eq W1 w.heap.size 0 (2 * zs.length) (2 * zs.length) (2 * zs.length) c b off _ zs hA.row (by omega) (by omega) c1
  have c2 : ∀ i, i < zs.length → W2.cell? ⟨b, off + i, none⟩ = some (.int .i64 (zs.getD i 0)) := fun i hi => (hK2.cell (p := ⟨b, off + i, none⟩) (by simp; omega)).trans (c1 i hi)
  obtain ⟨W3, hcp3, hR3, hK3⟩ := copy_eq W2 w.heap.size zs.length (2 * zs.length) (2 * zs.length - zs.length) (2 * zs.length - zs.length) c b off _ zs hR2 (by omega) (by omega) c2
  refine ⟨2 * zs.length, W1, W2, W3, rfl, ?_, hcp, hcp3, fun i hi => ?_, (hB.trans (hK2.below (by simp))).trans (hK3.below (by simp)), by rw [hK3.size, hK2.size, hS]⟩
  · have e : ((2 * zs.length : Nat) : Int) = 2 * (zs.length : Int) := by omega
    rw [e] at hmk
    exact hmk
  · have := (hR3 i hi).1
    rw [this]
    by_cases h1 : i < zs.length
    · simp only [if_neg (show ¬ (zs.length ≤ i ∧ i < zs.length + zs.length) by omega), if_pos (show 0 ≤ i ∧ i < 0 + zs.length from ⟨Nat.zero_le _, by omega⟩), Nat.sub_zero]
      rw [List.getD_eq_getElem?_getD, List.getD_eq_getElem?_getD, List.getElem?_append_left h1]
    · simp only [if_pos (show zs.length ≤ i ∧ i < zs.length + zs.length by omega)]
      rw [List.getD_eq_getElem?_getD, List.getD_eq_getElem?_getD, List.getElem?_append_right (by omega)]

theorem i22 : (Try.prog.info? 22).map (fun i => (i.zero, i.size, i.bytes)) = some (some (.slice none 0 0), 1, 24) := by kernel_rfl
theorem i99 : (Try.prog.info? 99).map (fun i => (i.zero.isSome, decide (i.bytes ≤ 64))) = some (true, true) := by kernel_rfl
/-- 'make([]msgKey, n)'. -/
theorem make62 (n : Nat) (hn : n ≤ 65536) : ∃ cs : Array Value, ∀ W : World, (Instr.makeSlice 62 (.int .i64 (n : Int)) (.int .i64 (n : Int))).run Try.prog W = .ok (.slice (some ⟨W.heap.size, 0, none⟩) n n) (W.alloc (.cells cs 99)) := by
  have h99 := i99
  cases hi : Try.prog.info? 99 with
  | none => rw [hi] at h99; cases h99
  | some i0 =>
    rw [hi] at h99
    simp only [Option.map_some, Option.some.injEq, Prod.mk.injEq, decide_eq_true_eq] at h99
    obtain ⟨hz, hb⟩ := h99
    obtain ⟨z, hz⟩ := Option.isSome_iff_exists.1 hz
    refine ⟨madeCells z.cells (n * i0.size), fun W => ?_⟩
    have h2 : i0.bytes * n ≤ 64 * 65536 := Nat.mul_le_mul hb hn
    have h := run_make (P := Try.prog) W 62 99 i0 z Try.underlying62 hi hz .i64 .i64 (n : Int) (n : Int) (by omega) (Int.le_refl _) (by first | (rw [← Int.natCast_mul]; omega) | omega | (rw [Int.toNat_natCast]; omega)) (by omega)
    simpa using h

/-- The members as numbers. -/
theorem OkM.nats {n : Nat} {dl : List Inn} {mz : List Int} (h : OkM n dl mz) (hl : ∀ j, (dl.getD j d0).zs.length ≤ 2000000) (hn : n ≤ 65536) (hK : mz.length ≤ 131072) (hD : dl.length ≤ 131072) : ∃ ms : List Nat, mz = ms.map (fun m : Nat => (m : Int)) ∧ ms.length = mz.length ∧ OkIn n dl ms := by
  have e : mz = (mz.map Int.toNat).map (fun m : Nat => (m : Int)) := by
    rw [List.map_map]
    conv => lhs; rw [← List.map_id mz]
    apply List.map_congr_left
    intro x hx
    obtain ⟨i, hi, rfl⟩ := List.mem_iff_getElem.1 hx
    have := (h i hi).1
    rw [List.getD_eq_getElem?_getD, List.getElem?_eq_getElem hi, Option.getD_some] at this
    simp only [id_eq, Function.comp_apply]
    omega
  refine ⟨mz.map Int.toNat, e, by simp, ⟨fun k hk => ?_, hl, by simpa using hK, hn, hD⟩⟩
  rw [List.length_map] at hk
  have h1 := h k hk
  have e2 : (mz.map Int.toNat).getD k 0 = (mz.getD k 0).toNat := by
    rw [List.getD_eq_getElem?_getD, List.getD_eq_getElem?_getD, List.getElem?_map, List.getElem?_eq_getElem hk]
    rfl
  rw [e2]
  exact ⟨by omega, h1.2.2⟩

end Go.Proofs.Qxb6601966a
