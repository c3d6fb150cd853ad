/-
  The text that tupleKeys builds: a slice of bytes that begins in an array and may move to new memory. Only that it is bytes is told, and what it leaves alone.
-/
import Derived.Test.Qxb6603132aDoorProg
import Derived.ArgAppend
import Derived.OwnWalk
import Derived.Below
import Derived.Lib.AppendStr
import Derived.Lib.AppendIntMem
import Derived.WalkKit
namespace Go.Proofs.Qxb6603132aDoor
open Go Go.RowKit

/-- The scratch array. -/
def Scr (w : World) (sb : Nat) : Prop := ∃ cur : Array Value, w.heap[sb]? = some (.cells cur 36 (0, 0)) ∧ cur.size = 64

/-- The row of a text of m bytes. -/
def TRow (sb : Nat) (w0 w : World) (v : Value) (m : Nat) : Prop := ∃ (g cap : Nat) (T : TypeId) (cur : Array Value) (l : List UInt8), v = .slice (some ⟨g, 0, none⟩) m cap ∧ (g = sb ∨ w0.heap.size ≤ g) ∧
  w.heap[g]? = some (.cells cur T (0, 0)) ∧ m ≤ cap ∧ cap ≤ maxLen ∧ cur.size = cap ∧ cur.toList.take m = Lib.byteCells l ∧ l.length = m

/-- The text v, m bytes long, is written since w0: nothing but the scratch array sb and new memory has turned. -/
structure TS (sb : Nat) (w0 w : World) (v : Value) (m : Nat) : Prop where
  row : TRow sb w0 w v m
  scr : Scr w sb
  os : w.os = w0.os
  tape : w.tape = w0.tape
  output : w.output = w0.output
  size : w0.heap.size ≤ w.heap.size
  block : ∀ k, k < w0.heap.size → k ≠ sb → w.heap[k]? = w0.heap[k]?

theorem TS.below {sb : Nat} {w0 w : World} {v : Value} {m B : Nat} (h : TS sb w0 w v m) (hB : B ≤ w0.heap.size) (hsb : B ≤ sb) : Below B w0 w :=
  ⟨h.os, h.tape, h.output, h.size, fun k hk => h.block k (by omega) (by omega)⟩

theorem lt_blk {w : World} {k : Nat} {o : Obj} (h : w.heap[k]? = some o) : k < w.heap.size := (Array.getElem?_eq_some_iff.1 h).1

/-- New blocks behind the heap: the text stands. -/
theorem TS.more {sb : Nat} {w0 w w' : World} {v : Value} {m : Nat} (h : TS sb w0 w v m) (hb : Below w.heap.size w w') : TS sb w0 w' v m := by
  obtain ⟨⟨g, cap, T, cur, l, rfl, hg, hh, r⟩, ⟨c2, h2, h3⟩, h4, h5, h6, h7, h8⟩ := h
  refine ⟨⟨g, cap, T, cur, l, rfl, hg, (hb.block g (lt_blk hh)).trans hh, r⟩, ⟨c2, (hb.block sb (lt_blk h2)).trans h2, h3⟩, hb.os.trans h4, hb.tape.trans h5, hb.output.trans h6, Nat.le_trans h7 hb.size, fun k hk hne => ?_⟩
  exact (hb.block k (by omega)).trans (h8 k hk hne)
theorem TS.alloc {sb : Nat} {w0 w : World} {v : Value} {m : Nat} (h : TS sb w0 w v m) (o : Obj) : TS sb w0 (w.alloc o) v m := h.more ((Below.refl _ _).alloc (Nat.le_refl _) _)

theorem TS.inplace {sb : Nat} {w0 w : World} {m g cap : Nat} {T : TypeId} {cur : Array Value} {l bs : List UInt8} (h : TS sb w0 w (.slice (some ⟨g, 0, none⟩) m cap) m) (hg : g = sb ∨ w0.heap.size ≤ g)
    (hh : w.heap[g]? = some (.cells cur T (0, 0))) (hcm : cap ≤ maxLen) (hcs : cur.size = cap) (ht : cur.toList.take m = Lib.byteCells l) (hl : l.length = m) (hroom : m + bs.length ≤ cap) :
    TS sb w0 (w.setRow g (cur.toList.take m ++ Lib.byteCells bs ++ cur.toList.drop (m + bs.length)).toArray) (.slice (some ⟨g, 0, none⟩) (m + bs.length) cap) (m + bs.length) := by
  obtain ⟨_, ⟨c2, h2, h3⟩, h4, h5, h6, h7, h8⟩ := h
  have hsz : (cur.toList.take m ++ Lib.byteCells bs ++ cur.toList.drop (m + bs.length)).toArray.size = cap := by
    simp only [List.size_toArray, List.length_append, List.length_take, List.length_drop, Array.length_toList, Lib.byteCells_length]
    omega
  refine ⟨⟨g, cap, T, _, l ++ bs, rfl, hg, setRow_heap w g cur _ T _ hh, hroom, hcm, hsz, ?_, by simp [hl]⟩, ?_, h4, h5, h6, by simpa [World.setRow] using h7, fun k hk hne => ?_⟩
  · have e1 : (cur.toList.take m ++ Lib.byteCells bs).length = m + bs.length := by
      simp only [List.length_append, List.length_take, Array.length_toList, Lib.byteCells_length]
      omega
    rw [ht] at e1 ⊢
    show (Lib.byteCells l ++ Lib.byteCells bs ++ _).take (m + bs.length) = _
    rw [← e1, List.take_left, Lib.byteCells_append]
  · by_cases e : g = sb
    · subst e
      rw [hh] at h2
      cases h2
      exact ⟨_, setRow_heap w g cur _ 36 _ hh, hsz.trans (hcs.symm.trans h3)⟩
    · exact ⟨c2, (setRow_other w g sb _ (fun e' => e e'.symm)).trans h2, h3⟩
  · refine (setRow_other w g k _ (fun e => ?_)).trans (h8 k hk hne)
    rcases hg with e' | e'
    · omega
    · omega

theorem TS.moved {sb : Nat} {w0 w w' : World} {v v' : Value} {m n : Nat} {l : List UInt8} (h : TS sb w0 w v m) (hn : 0 < n) (hown : w'.ownsRow w.heap.size 5 1 v' n (Lib.byteCells l)) (hgr : w.grownBy w' none) : TS sb w0 w' v' n := by
  obtain ⟨_, ⟨c2, h2, h3⟩, h4, h5, h6, h7, h8⟩ := h
  have hlen : l.length = n := by
    have := hown.1
    rw [Lib.byteCells_length, Nat.mul_one] at this
    exact this
  rcases hown.2 with ⟨_, h0⟩ | ⟨g, cap, cur, hv, hbg, hg, hnc, hcm, hcs, htake⟩
  · omega
  · refine ⟨⟨g, cap, 5, cur, l, hv, .inr (by omega), hg, hnc, hcm, by simpa using hcs, by simpa using htake, hlen⟩, ⟨c2, (hgr.block sb (lt_blk h2) (by simp)).trans h2, h3⟩, hgr.os.trans h4, hgr.tape.trans h5, hgr.output.trans h6, Nat.le_trans h7 hgr.size, fun k hk hne => ?_⟩
    exact (hgr.block k (by omega) (by simp)).trans (h8 k hk hne)

theorem bytes_one (l : List UInt8) : ∀ v ∈ Lib.byteCells l, v.oneCell' = true := by
  intro v hv
  simp only [Lib.byteCells, List.mem_map] at hv
  obtain ⟨b, _, rfl⟩ := hv
  rfl

theorem i5d : (Tryd.prog.info? 5).map (fun i => (i.zero, i.size, i.bytes)) = some (some (.int .u8 0), 1, 1) := by kernel_rfl

theorem ts_append {sb : Nat} {w0 w : World} {v : Value} {m : Nat} (h : TS sb w0 w v m) (ty : TypeId) (bs : List UInt8) (mm c : Nat) (ad : Addr) (hmm : bs.length = mm) (hnews : ∀ j u, (Lib.byteCells bs)[j]? = some u → w.cell? (ad.add j) = some u) (hlim : m + mm ≤ 140737488355328) :
    ∃ v' w', (Builtin.append_ #[37, 37] ty #[v, .slice (some ad) mm c]).run Tryd.prog w = .ok v' w' ∧ TS sb w0 w' v' (m + mm) := by
  subst hmm
  obtain ⟨i, hi, hz0, hz1, hz2⟩ := info_parts i5d
  have h0 := h
  obtain ⟨⟨g, cap, T, cur, l, rfl, hg, hh, hmc, hcm, hcs, ht, hl⟩, -, -, -, -, -, -⟩ := h0
  by_cases hroom : m + bs.length ≤ cap
  · have hf := run_firstCells_some (P := Tryd.prog) w i.size bs.length ad bs.length c (Lib.byteCells bs) (by rw [hz1, Lib.byteCells_length, Nat.mul_one]) hnews
    have hst := run_storeCells_at Tryd.prog g m T (Lib.byteCells bs) 0 cur w hh (by rw [Lib.byteCells_length]; omega) (bytes_one bs)
    simp only [Nat.add_zero, Lib.byteCells_length] at hst
    refine ⟨_, _, ?_, h.inplace hg hh hcm hcs ht hl hroom⟩
    rw [hz1] at hf
    simp [Builtin.append_, run_underlying Tryd.underlying37, sizeOf, typeInfo, hi, Builtin.lenOf, hroom, hf, Addr.add_lit, hz1, hst]
  · have holds : ∀ j u, (Lib.byteCells l)[j]? = some u → w.cell? ((⟨g, 0, none⟩ : Addr).add j) = some u := fun j u hj => by
      rw [← ht] at hj
      rw [Addr.add_lit, Nat.zero_add, cell_of_row w g j cur T _ hh, ← Array.getElem?_toList]
      rw [List.getElem?_take] at hj
      split at hj
      · exact hj
      · cases hj
    obtain ⟨v', w', hrun, r1, r2⟩ := run_append_arg_grows (P := Tryd.prog) w 37 ty 5 i (.int .u8 0) 1 1 Tryd.underlying37 hi hz0 hz1 hz2 rfl (by decide) ⟨g, 0, none⟩ m cap (Lib.byteCells l) (by rw [Lib.byteCells_length, hl, Nat.mul_one]) holds ad bs.length c (Lib.byteCells bs) (by rw [Lib.byteCells_length, Nat.mul_one]) hnews (by omega) (by unfold maxLen; omega) (by omega)
    rw [← Lib.byteCells_append] at r1
    exact ⟨v', w', hrun, h.moved (by omega) r1 r2⟩

theorem ts_append_string {sb : Nat} {w0 w : World} {v : Value} {m : Nat} (h : TS sb w0 w v m) (ty : TypeId) (s : ByteArray) (hlim : m + s.size ≤ 140737488355328) :
    ∃ v' w', (Builtin.append_ #[37, 9] ty #[v, .string s]).run Tryd.prog w = .ok v' w' ∧ TS sb w0 w' v' (m + s.size) := by
  obtain ⟨i, hi, hz0, hz1, hz2⟩ := info_parts i5d
  have h0 := h
  obtain ⟨⟨g, cap, T, cur, l, rfl, hg, hh, hmc, hcm, hcs, ht, hl⟩, -, -, -, -, -, -⟩ := h0
  have hsl : s.data.toList.length = s.size := by rw [Array.length_toList]; rfl
  by_cases hroom : m + s.size ≤ cap
  · have hf := Lib.run_firstCells_string (P := Tryd.prog) w 1 s
    have hst := run_storeCells_at Tryd.prog g m T (Lib.strCells s) 0 cur w hh (by rw [Lib.strCells_length]; omega) (Lib.strCells_oneCell s)
    simp only [Nat.add_zero, Lib.strCells_length] at hst
    rw [Lib.strCells_eq] at hf hst
    have hT := h.inplace (bs := s.data.toList) hg hh hcm hcs ht hl (by rw [hsl]; exact hroom)
    rw [hsl] at hT
    refine ⟨_, _, ?_, hT⟩
    simp [Builtin.append_, run_underlying Tryd.underlying37, run_underlying Tryd.underlying9, sizeOf, typeInfo, hi, hz1, Builtin.lenOf, hroom, hf, Addr.add_lit, hst]
  · have holds : ∀ j u, (Lib.byteCells l)[j]? = some u → w.cell? ((⟨g, 0, none⟩ : Addr).add j) = some u := fun j u hj => by
      rw [← ht] at hj
      rw [Addr.add_lit, Nat.zero_add, cell_of_row w g j cur T _ hh, ← Array.getElem?_toList]
      rw [List.getElem?_take] at hj
      split at hj
      · exact hj
      · cases hj
    have hr := Lib.run_append_grow_string (P := Tryd.prog) w 37 9 ty 5 i (.int .u8 0) Tryd.underlying37 Tryd.underlying9 hi hz0 ⟨g, 0, none⟩ m cap (Lib.byteCells l) (by rw [hz1, Lib.byteCells_length, hl, Nat.mul_one]) holds s (by omega) (by omega) (by rw [hz2]; exact growslice_fits (by omega) (by omega))
    have hge := grownCap_ge w (m + s.size) cap 5
    have hcm' : grownCap w (m + s.size) cap 5 ≤ maxLen := grownCap_le_maxLen w (m + s.size) cap 5 (by unfold maxLen; omega)
    refine ⟨_, _, hr, h.moved (l := l ++ s.data.toList) (by omega) ⟨by rw [Lib.byteCells_length, List.length_append, hl, hsl, Nat.mul_one], .inr ⟨w.heap.size, _, _, rfl, Nat.le_refl _, heap_alloc_new w.drew _, hge, hcm', ?_, ?_⟩⟩ ⟨rfl, rfl, rfl, by simp, fun k hk _ => heap_alloc_old w.drew _ hk⟩⟩
    · have hzc : (Value.int IntKind.u8 0).cells.size = 1 := rfl
      simp only [Array.size_append, List.size_toArray, size_zeroCells, hzc, Lib.byteCells_length, Lib.strCells_length, hl]
      omega
    · have e1 : (Lib.byteCells l ++ Lib.strCells s).length = (m + s.size) * 1 := by rw [List.length_append, Lib.byteCells_length, Lib.strCells_length, hl, Nat.mul_one]
      simp only [Array.toList_append, List.append_assoc]
      rw [← List.append_assoc, ← e1, List.take_left, Lib.byteCells_append, Lib.strCells_eq]

/-- For the walk. -/
theorem wpList_append_ts {ops : Array Oper} {rest : List Oper} {o : Oper} {a : Act} {Q : Exit → Act → World → Prop} (hgd : o.guard = none) (s x : Operand)
    (ho : o.op = .call { callee := .builtin .append, args := #[s, x], argTypes := #[37, 37] }) {sb : Nat} {w0 w : World} {v : Value} {m : Nat} (hs : a.eval s = v) (h : TS sb w0 w v m) (bs : List UInt8) (mm c : Nat) (ad : Addr) (hx : a.eval x = .slice (some ad) mm c) (hmm : bs.length = mm)
    (hnews : ∀ j u, (Lib.byteCells bs)[j]? = some u → w.cell? (ad.add j) = some u) (hlim : m + mm ≤ 140737488355328)
    (hK : ∀ v' w', TS sb w0 w' v' (m + mm) → wpList Tryd.prog ops Q rest (a.put o.dst v') w') : wpList Tryd.prog ops Q (o :: rest) a w := by
  refine wpList_plain hgd fun K hK' => ?_
  obtain ⟨v', w', hrun, r⟩ := ts_append h o.type bs mm c ad hmm hnews hlim
  unfold Oper.wp execOp
  simp only [ho, resolve, invoke, builtin, Sem.run_bind, Sem.run_pure, Result.andThen_ok, List.map_toArray, List.map_cons, List.map_nil, hs, hx, hrun]
  exact hK' _ _ (hK v' w' r)
theorem wpList_append_ts_string {ops : Array Oper} {rest : List Oper} {o : Oper} {a : Act} {Q : Exit → Act → World → Prop} (hgd : o.guard = none) (sl x : Operand)
    (ho : o.op = .call { callee := .builtin .append, args := #[sl, x], argTypes := #[37, 9] }) {sb : Nat} {w0 w : World} {v : Value} {m : Nat} (hs : a.eval sl = v) (h : TS sb w0 w v m) (s : ByteArray) (hx : a.eval x = .string s) (hlim : m + s.size ≤ 140737488355328)
    (hK : ∀ v' w', TS sb w0 w' v' (m + s.size) → wpList Tryd.prog ops Q rest (a.put o.dst v') w') : wpList Tryd.prog ops Q (o :: rest) a w := by
  refine wpList_plain hgd fun K hK' => ?_
  obtain ⟨v', w', hrun, r⟩ := ts_append_string h o.type s hlim
  unfold Oper.wp execOp
  simp only [ho, resolve, invoke, builtin, Sem.run_bind, Sem.run_pure, Result.andThen_ok, List.map_toArray, List.map_cons, List.map_nil, hs, hx, hrun]
  exact hK' _ _ (hK v' w' r)

end Go.Proofs.Qxb6603132aDoor
