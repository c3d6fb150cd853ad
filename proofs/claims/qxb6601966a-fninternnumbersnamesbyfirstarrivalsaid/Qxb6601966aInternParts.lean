/-
  FnInternNumbersNamesByFirstArrival: the small functions on its road, and what its loop does to memory.
-/
import Derived.Test.Qxb6601966aIntern
import Derived.Deep.QuietTactic
import Derived.BigQuiet
import Derived.WalkLawsBesides
import Derived.OpenShut
namespace Go.Proofs.Qxb6601966a
open Go Go.RowKit Go.Maps

variable {w : World} {base hb b f : Nat} {vs : List Value} {rs : List RowI} {D E : DataW Unit}

theorem HSt.kept {w' : World} (h : HSt w base hb b f vs rs D E) (hg : w.grownBy w' none) : HSt w' base hb b f vs rs D E := by
  refine ⟨?_, h.rows.kept hg (fun r _ => by cases r.v.ownBlock <;> simp), h.tys, h.map.kept hg (by simp), h.map2.kept hg (by simp), h.ne, h.hb0, h.b0, h.f0⟩
  rw [hg.block hb (lt_of_block h.blk) (by simp)]
  exact h.blk

/-- The second map is written. -/
theorem HSt.putE {w1 : World} {n : Nat} {E' : DataW Unit} (h : HSt w base hb b f vs rs D E) (hown : w1.ownsMap Try.prog 9 (plainElem Try.prog 3) f n E') (ht : w.grownBy w1 (some f)) :
    HSt w1 base hb b f vs rs D E' ∧ Below base w w1 := by
  have hlt := lt_of_block h.blk
  refine ⟨⟨?_, h.rows.kept ht (fun r hr => .inr (row_not_map h.map2 (h.rows.1 r hr))), h.tys, h.map.kept ht (by simpa using h.ne), ?_, h.ne, h.hb0, h.b0, h.f0⟩, ?_⟩
  · rw [ht.block hb hlt (by simpa using (cells_not_map h.map2 h.blk).symm)]
    exact h.blk
  · obtain ⟨es, clock, h1, h2, h3, rfl⟩ := hown
    exact ⟨es, clock, h1, h2, by simp [Maps.size, length_sorted], rfl⟩
  · exact (Below.refl _ _).grown ht h.base_le (fun k hk => by cases hk; exact h.f0)

/-- A cell of one of the rows is written. -/
theorem HSt.storeRow {pre post : List RowI} {e : TypeId} {size g n cap : Nat} {xs : List Value} (h : HSt w base hb b f vs (pre ++ ⟨e, size, .slice (some ⟨g, 0, none⟩) n cap, n, xs⟩ :: post) D E) (j : Nat) (u : Value) :
    HSt (w.setCell ⟨g, j, none⟩ u) base hb b f vs (pre ++ ⟨e, size, .slice (some ⟨g, 0, none⟩) n cap, n, xs.set j u⟩ :: post) D E ∧ Below base w (w.setCell ⟨g, j, none⟩ u) := by
  have hrr : (⟨e, size, .slice (some ⟨g, 0, none⟩) n cap, n, xs⟩ : RowI) ∈ pre ++ ⟨e, size, .slice (some ⟨g, 0, none⟩) n cap, n, xs⟩ :: post := by simp
  have hrow : w.ownsRow base e size (.slice (some ⟨g, 0, none⟩) n cap) n xs := h.rows.1 _ hrr
  obtain ⟨h1, h2⟩ := hrow.stored j u
  have hne : hb ≠ g := fun e => h.row_ne hrr (by simp [Value.ownBlock, e])
  have hm1 := row_not_map h.map hrow
  have hm2 := row_not_map h.map2 hrow
  have hp := List.pairwise_append.1 h.rows.2
  obtain ⟨hp1, hp2, hp3⟩ := hp
  obtain ⟨hp4, hp5⟩ := List.pairwise_cons.1 hp2
  refine ⟨⟨?_, ⟨fun q hq => ?_, ?_⟩, fun q hq => ?_, h.map.kept h2 (fun e => hm1 (by simpa [Value.ownBlock] using e.symm)), h.map2.kept h2 (fun e => hm2 (by simpa [Value.ownBlock] using e.symm)), h.ne, h.hb0, h.b0, h.f0⟩, ?_⟩
  · rw [h2.block hb (lt_of_block h.blk) (by simpa using hne)]
    exact h.blk
  · rcases List.mem_append.1 hq with hq | hq
    · exact (h.rows.1 q (by simp [hq])).kept h2 (hp3 q hq ⟨e, size, .slice (some ⟨g, 0, none⟩) n cap, n, xs⟩ (List.mem_cons_self ..))
    · rcases List.mem_cons.1 hq with rfl | hq
      · exact h1
      · refine (h.rows.1 q (by simp [hq])).kept h2 ?_
        rcases hp4 q hq with h' | h'
        · simp [Value.ownBlock] at h'
        · exact .inr (fun e => h' e.symm)
  · exact List.pairwise_append.2 ⟨hp1, List.pairwise_cons.2 ⟨hp4, hp5⟩, fun q hq q' hq' => by
      rcases List.mem_cons.1 hq' with rfl | hq'
      · exact hp3 q hq ⟨e, size, .slice (some ⟨g, 0, none⟩) n cap, n, xs⟩ (List.mem_cons_self ..)
      · exact hp3 q hq q' (by simp [hq'])⟩
  · rcases List.mem_append.1 hq with hq | hq
    · exact h.tys q (by simp [hq])
    · rcases List.mem_cons.1 hq with rfl | hq
      · exact (h.tys ⟨e, size, .slice (some ⟨g, 0, none⟩) n cap, n, xs⟩ hrr : e ≠ 71)
      · exact h.tys q (by simp [hq])
  · exact (Below.refl _ _).setCell (hrow.lt g rfl).1 _

theorem grown_drewN {w w' : World} {row : Option Nat} (h : w.grownBy w' row) (q : Nat) : w.grownBy (w'.drewN q) row := ⟨h.os, h.tape, h.output, h.size, h.block⟩

theorem newhist_calls (w : World) (b : Nat) :
    Calls Try.prog 15 #[.slice none 0 0, .map (some b), .slice none 0 0, .slice none 0 0, .slice none 0 0, .slice none 0 0, .slice none 0 0, .slice none 0 0, .slice none 0 0] w fun e w' =>
      e = .returned (.pointer (some ⟨w.heap.size, 0, none⟩)) ∧ w' = w.alloc (.cells #[.map none, .map none, .slice none 0 0, .slice none 0 0, .map (some b), .slice none 0 0, .slice none 0 0, .slice none 0 0, .slice none 0 0, .slice none 0 0, .slice none 0 0, .slice none 0 0, .slice none 0 0, .slice none 0 0] 71) := by
  go_enter Try.func15, Try.ntmps15
  go_wp2
  go_ret
  exact ⟨rfl, rfl⟩

set_option maxHeartbeats 1000000 in
theorem state_calls (w : World) (hb b : Nat) (a3 a5 a6 a7 a8 a9 a10 a13 : Option Addr) (n c3 c5 c6 c7 c8 c9 c10 c13 : Nat) (base f : Nat) (rs : List RowI) (D E : DataW Unit)
    (h : HSt w base hb b f (hv b (.slice a3 n c3) (.slice a5 n c5) (.slice a6 n c6) (.slice a7 n c7) (.slice a8 n c8) (.slice a9 n c9) (.slice a10 n c10) (.slice a13 n c13)) rs D E) :
    Calls Try.prog 17 #[.pointer (some ⟨hb, 0, none⟩)] w fun e w' =>
      e = .returned (.tuple #[.slice a3 n c3, .map (some b), .slice a5 n c5, .slice a6 n c6, .slice a7 n c7, .slice a8 n c8, .slice a9 n c9, .slice a10 n c10, .slice a13 n c13]) ∧ ∃ q, w' = w.drewN q := by
  have k3 := (h.cell (j := 3) rfl).1
  have k4 := (h.cell (j := 4) rfl).1
  have k5 := (h.cell (j := 5) rfl).1
  have k6 := (h.cell (j := 6) rfl).1
  have k7 := (h.cell (j := 7) rfl).1
  have k8 := (h.cell (j := 8) rfl).1
  have k9 := (h.cell (j := 9) rfl).1
  have k10 := (h.cell (j := 10) rfl).1
  have k13 := (h.cell (j := 13) rfl).1
  clear h
  go_enter Try.func17, Try.ntmps17
  go_wp2
  go_quiet (fail)
  go_wp2
  refine bodyPost_ret (v := .tuple #[.slice a3 n c3, .map (some b), .slice a5 n c5, .slice a6 n c6, .slice a7 n c7, .slice a8 n c8, .slice a9 n c9, .slice a10 n c10, .slice a13 n c13]) (by simp [results, Try.results17, go_sem]) rfl ⟨rfl, nq, rfl⟩

theorem fields_calls (w : World) : Calls Try.prog 26 #[.agg #[.slice none 0 0, .map none, .int .i64 0]] w fun e w' =>
    e = .returned (.tuple #[.slice none 0 0, .map none, .int .i64 0]) ∧ w.grownBy w' none := by
  go_enter Try.func26, Try.ntmps26
  go_wp2
  go_quiet (fail)
  go_wp2
  go_ret3
  exact ⟨rfl, grown_drewN (World.grownBy_alloc w _ none) nq⟩

theorem zero_calls (w : World) : Calls Try.prog 18 #[.agg #[.slice none 0 0, .map none, .int .i64 0]] w fun e w' => e = .returned (.bool true) ∧ w.grownBy w' none := by
  have q22 : ∀ (w : World) (a : Option Addr) (n c n' c' : Nat), (binOp .eql 22 (.slice a n c) (.slice none n' c')).run Try.prog w = .ok (.bool a.isNone) w := fun w a n c n' c' => Lib.run_eql_slice_nil w _ _ a n c n' c' Try.underlying22
  have q26 : ∀ (w : World) (r : Option Nat), (binOp .eql 26 (.map r) (.map none)).run Try.prog w = .ok (.bool r.isNone) w := fun w r => run_eql_map_nil w _ _ _ r Try.underlying26
  go_enter Try.func18, Try.ntmps18
  go_wp2_with (go_at_call 26; go_must (refine (fields_calls _).mono ?_); rintro e w1 ⟨rfl, hg1⟩)
  go_ret
  exact ⟨rfl, (World.grownBy_alloc w _ none).trans hg1⟩

/-- What intern leaves. -/
def Interned (hb b base f : Nat) (s : ByteArray) (l : List ByteArray) (E : DataW Unit) (ex : List RowI) (w : World) (e : Ending) (w' : World) : Prop :=
  ∃ l' D', e = .returned (.int .i64 (Nm.pos s l' : Int)) ∧ l' = (if Nm.mem s l then l else l ++ [s]) ∧ Hist w' base hb b f l'.length l' D' E ex ∧ Nm.Idx D' l' (fun x => (Nm.pos x l' : Int)) ∧ Below base w w'

theorem zzintern_calls (hb b base f : Nat) (s : ByteArray) (l : List ByteArray) (D E : DataW Unit) (ex : List RowI) (w : World) (h : Hist w base hb b f l.length l D E ex) (hI : Nm.Idx D l (fun x => (Nm.pos x l : Int))) (hs : s.size ≤ maxLen) (hn : l.length ≤ 1000000) :
    Calls Try.prog 16 #[.pointer (some ⟨hb, 0, none⟩), .string s] w (Interned hb b base f s l E ex w) := by
  have H := hide2 (intern_calls hb b base f s l D E ex w h hI hs hn)
  clear h hI hs
  go_enter Try.func16, Try.ntmps16
  go_wp2_with (go_at_call 34; go_must (refine H.out.mono ?_); rintro e w1 ⟨l', D', rfl, h1, h2, h3, h4⟩; have H1 := hide2 h1; clear h1)
  go_ret
  exact ⟨l', D', rfl, H1.out, h2, h3, h4⟩

end Go.Proofs.Qxb6601966a
