/-
  FnInternNumbersNamesByFirstArrival: the bound on total length; the empty History.
-/
import Derived.Test.Qxb6601966aInternParts
namespace Go.Proofs.Qxb6601966a
open Go Go.RowKit Go.Maps

/-- Where there is an element, the names ns lie at the address a. -/
def NRd (w : World) (a : Option Addr) (ns : List ByteArray) : Prop :=
  0 < ns.length → ∃ b off, a = some ⟨b, off, none⟩ ∧ b < w.heap.size ∧ ∀ i, i < ns.length → w.cell? ⟨b, off + i, none⟩ = some (.string (ns.getD i ByteArray.empty))

theorem NRd.later {w w' : World} {a : Option Addr} {ns : List ByteArray} (h : NRd w a ns) (hb : Below w.heap.size w w') {i : Nat} (hi : i < ns.length) :
    ∃ b off, a = some ⟨b, off, none⟩ ∧ w'.cell? ⟨b, off + i, none⟩ = some (.string (ns.getD i ByteArray.empty)) := by
  obtain ⟨b, off, e, hlt, hc⟩ := h (by omega)
  exact ⟨b, off, e, (hb.cell (by exact hlt)).trans (hc i hi)⟩

theorem size_getD {ns : List ByteArray} (h : ∀ s ∈ ns, s.size ≤ maxLen) (i : Nat) : (ns.getD i ByteArray.empty).size ≤ maxLen := by
  by_cases hi : i < ns.length
  · rw [List.getD_eq_getElem?_getD, List.getElem?_eq_getElem hi, Option.getD_some]
    exact h _ (List.getElem_mem _)
  · rw [List.getD_eq_getElem?_getD, List.getElem?_eq_none (by omega)]
    exact Nat.zero_le _

def ABool (e : Ending) : Prop := ∃ b, e = .returned (.bool b)

set_option maxHeartbeats 400000 in
theorem bytes_intern (a : Option Addr) (N c : Nat) (ns : List ByteArray) (w : World) (hN : N = ns.length) (hm : N ≤ maxLen) (h : NRd w a ns) (hs : ∀ s ∈ ns, s.size ≤ maxLen) :
    Calls Try.prog 14 #[.slice a N c] w fun e w' => ABool e ∧ w' = w := by
  have HN := hide2 hN
  have HS := hide2 hs
  clear hN hs
  unfold maxLen at hm
  by_cases h0 : (N : Int) ≤ 1048576
  · go_enter Try.func14, Try.ntmps14
    go_wp2
    go_loop [3, 4] (fun z j => ∃ t q : Nat, t ≤ N ∧ q ≤ 1048576 ∧ j = .int .i64 t ∧ z = .int .i64 q) (fun _ j => N - (intOf j).toNat)
    case atStart => exact ⟨0, N, Nat.zero_le _, by omega, rfl, rfl⟩
    case round =>
      obtain ⟨t, q, ht, hq, rfl, rfl⟩ := hrel
      by_cases hlt : t < N
      · obtain ⟨b, off, ra, hc⟩ := h.later (Below.refl _ _) (i := t) (by have := HN.out; omega)
        subst ra
        have hsz := size_getD HS.out t
        unfold maxLen at hsz
        obtain ⟨s, hs⟩ : ∃ s, s = ns.getD t ByteArray.empty := ⟨_, rfl⟩
        rw [← hs] at hc hsz
        clear hs
        by_cases k1 : (s.size : Int) ≤ 1048576
        · by_cases k2 : (q : Int) + s.size ≤ 1048576
          · go_wp2
            go_round
            case rel => exact ⟨t + 1, q + s.size, by omega, by omega, by go_num, by go_num⟩
            case measure => simp [intOf]; omega
          · go_wp2
            go_ret
            exact ⟨⟨_, rfl⟩, rfl⟩
        · go_wp2
          go_ret
          exact ⟨⟨_, rfl⟩, rfl⟩
      · go_wp2
        go_ret
        exact ⟨⟨_, rfl⟩, rfl⟩
  · go_enter Try.func14, Try.ntmps14
    go_wp2
    go_ret
    exact ⟨⟨_, rfl⟩, rfl⟩

/-- The rows of a History of nothing. -/
def nilRows : List RowI := [r3 (.slice none 0 0) 0 [], r5 (.slice none 0 0) 0, rS (.slice none 0 0) 0, rS (.slice none 0 0) 0, rS (.slice none 0 0) 0, rB (.slice none 0 0) 0, rB (.slice none 0 0) 0, rM (.slice none 0 0) 0]
def nilCells (b : Nat) : Array Value := #[.map none, .map none, .slice none 0 0, .slice none 0 0, .map (some b), .slice none 0 0, .slice none 0 0, .slice none 0 0, .slice none 0 0, .slice none 0 0, .slice none 0 0, .slice none 0 0, .slice none 0 0, .slice none 0 0]

theorem hist_start (w : World) : HSt (((w.alloc (.map #[] 0)).alloc (.cells (nilCells w.heap.size) 71)).alloc (.map #[] 0)) w.heap.size (w.heap.size + 1) w.heap.size (w.heap.size + 2)
    (hv w.heap.size (.slice none 0 0) (.slice none 0 0) (.slice none 0 0) (.slice none 0 0) (.slice none 0 0) (.slice none 0 0) (.slice none 0 0) (.slice none 0 0)) nilRows (.map []) (.map []) := by
  have hsz1 : (w.alloc (.map #[] 0)).heap.size = w.heap.size + 1 := by simp
  have hsz2 : ((w.alloc (.map #[] 0)).alloc (.cells (nilCells w.heap.size) 71)).heap.size = w.heap.size + 2 := by simp
  refine ⟨?_, ⟨?_, ?_⟩, ?_, ?_, ?_, by omega, by omega, by omega, by omega⟩
  · rw [Below.heap_alloc _ _ _ (by omega)]
    have h := heap_alloc_new (w.alloc (.map #[] 0)) (.cells (nilCells w.heap.size) 71)
    rw [hsz1] at h
    exact h
  · intro r hr
    simp [nilRows] at hr
    rcases hr with rfl | rfl | rfl | rfl | rfl
    all_goals exact ⟨rfl, .inl ⟨rfl, rfl⟩⟩
  · simp [nilRows, r3, r5, rS, rB, rM, Value.ownBlock]
  · intro r hr
    simp [nilRows] at hr
    rcases hr with rfl | rfl | rfl | rfl | rfl
    all_goals simp [r3, r5, rS, rB, rM]
  · exact ((World.ownsMap_made w Try.prog 9 (plainElem Try.prog 3)).alloc _).alloc _
  · have h := World.ownsMap_made ((w.alloc (.map #[] 0)).alloc (.cells (nilCells w.heap.size) 71)) Try.prog 9 (plainElem (H := Unit) Try.prog 3)
    rw [hsz2] at h
    exact h

/-- One row more. -/
theorem HSt.more {w w' : World} {base hb b f n : Nat} {vs : List Value} {rs : List RowI} {D E : DataW Unit} {e : TypeId} {size : Nat} {v : Value} {xs : List Value} (h : HSt w base hb b f vs rs D E) (hg : w.grownBy w' none) (he : e ≠ 71)
    (hown : w'.ownsRow base e size v n xs) (hv : v.ownBlock = some w.heap.size) : HSt w' base hb b f vs (rs ++ [⟨e, size, v, n, xs⟩]) D E := by
  have h' := h.kept hg
  refine ⟨h'.blk, ⟨fun r hr => ?_, ?_⟩, fun r hr => ?_, h'.map, h'.map2, h.ne, h.hb0, h.b0, h.f0⟩
  · rcases List.mem_append.1 hr with hr | hr
    · exact h'.rows.1 r hr
    · simp at hr; subst hr; exact hown
  · refine List.pairwise_append.2 ⟨h'.rows.2, by simp, fun q hq q' hq' => ?_⟩
    simp at hq'
    subst hq'
    right
    show q.v.ownBlock ≠ v.ownBlock
    rw [hv]
    intro e
    have := ((h.rows.1 q hq).lt _ e).2
    omega
  · rcases List.mem_append.1 hr with hr | hr
    · exact h.tys r hr
    · simp at hr; subst hr; exact he

end Go.Proofs.Qxb6601966a
