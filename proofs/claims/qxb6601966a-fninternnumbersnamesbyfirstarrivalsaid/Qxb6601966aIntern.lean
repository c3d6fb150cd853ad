/-
  (*History).intern: its walk.
-/
import Derived.Test.Qxb6601966aHist
import Derived.Test.Qxb6601966aNames
import Derived.Deep.DeepCutAuto
namespace Go.Proofs.Qxb6601966a
open Go Go.RowKit Go.Maps

theorem law9 : Keyed Try.prog 9 := string_keyed Try.underlying9
theorem zero3' (w : World) : (zeroValue 3).run Try.prog w = .ok (.int .i64 0) w := by kernel_rfl
theorem key9 {s : ByteArray} (h : s.size ≤ maxLen) : keyOf Try.prog 9 (.string s) = some (Nm.ks s) := WideMaps.keyOf_string_mk Try.underlying9 h
theorem info9 : (Try.prog.info? 9).map (fun i => (i.zero, i.size, i.bytes)) = some (some (.string ByteArray.empty), 1, 16) := by kernel_rfl
theorem info3' : (Try.prog.info? 3).map (fun i => (i.zero, i.size, i.bytes)) = some (some (.int .i64 0), 1, 8) := by kernel_rfl
theorem info22 : (Try.prog.info? 22).map (fun i => (i.zero, i.size, i.bytes)) = some (some (.slice none 0 0), 1, 24) := by kernel_rfl
theorem info4 : (Try.prog.info? 4).map (fun i => (i.zero, i.size, i.bytes)) = some (some (.bool false), 1, 1) := by kernel_rfl
theorem info47 : (Try.prog.info? 47).map (fun i => (i.zero, i.size, i.bytes)) = some (some (.agg #[.slice none 0 0, .map none, .int .i64 0]), 3, 40) := by kernel_rfl

/-- 'v, ok := m[s]' in a map from names to ints. -/
theorem lookS {w : World} {b n : Nat} {D : DataW Unit} (ho : w.ownsMap Try.prog 9 (plainElem Try.prog 3) b n D) {s : ByteArray} (hs : s.size ≤ maxLen) :
    (Instr.lookup 38 (.map (some b)) (.string s) true).run Try.prog w = .ok (.tuple #[.int .i64 (Nm.valS D s), .bool (Nm.hasS D s)]) w := by
  obtain ⟨v, ps, hrun, hv⟩ := ho.look_ok law9 Try.underlying38 (zero3' w) (plainElem_int Try.underlying3 (by decide)) (key9 hs)
  obtain ⟨c, rfl, hc, hwc⟩ := plainElem_int_inv Try.underlying3 hv
  rw [hrun]
  have e : D.atKey (Nm.ks s) (.lit (.int .i64 0)) = .lit (.int .i64 c) := congrArg Prod.fst hc
  have e2 : Nm.valS D s = c := by unfold Nm.valS Nm.vi; rw [e]; rfl
  rw [e2]
  rfl

/-- The History's cells. -/
def hv (b : Nat) (v3 v5 v6 v7 v8 v9 v10 v13 : Value) : List Value := [.map none, .map none, .slice none 0 0, v3, .map (some b), v5, v6, v7, v8, v9, v10, .slice none 0 0, .slice none 0 0, v13]

def zc : List Value := [.slice none 0 0, .map none, .int .i64 0]
def xI (n : Nat) : List Value := List.replicate n (.int .i64 (-1))
def xS (n : Nat) : List Value := List.replicate n (.slice none 0 0)
def xB (n : Nat) : List Value := List.replicate n (.bool false)
def xM (n : Nat) : List Value := (List.replicate n zc).flatten
theorem xI_succ (n : Nat) : xI n ++ [.int .i64 (-1)] = xI (n + 1) := by unfold xI; rw [List.replicate_succ']
theorem xS_succ (n : Nat) : xS n ++ [.slice none 0 0] = xS (n + 1) := by unfold xS; rw [List.replicate_succ']
theorem xB_succ (n : Nat) : xB n ++ [.bool false] = xB (n + 1) := by unfold xB; rw [List.replicate_succ']
theorem xM_succ (n : Nat) : xM n ++ zc = xM (n + 1) := by unfold xM; rw [List.replicate_succ', List.flatten_append]; simp

def r3 (v : Value) (n : Nat) (l : List ByteArray) : RowI := ⟨9, 1, v, n, l.map Value.string⟩
def r5 (v : Value) (n : Nat) : RowI := ⟨3, 1, v, n, xI n⟩
def rS (v : Value) (n : Nat) : RowI := ⟨22, 1, v, n, xS n⟩
def rB (v : Value) (n : Nat) : RowI := ⟨4, 1, v, n, xB n⟩
def rM (v : Value) (n : Nat) : RowI := ⟨47, 3, v, n, xM n⟩

theorem r3_snoc (v : Value) (n : Nat) (l : List ByteArray) (s : ByteArray) : r3 v (n + 1) (l ++ [s]) = ⟨9, 1, v, n + 1, l.map Value.string ++ [.string s]⟩ := by simp [r3]
theorem r5_snoc (v : Value) (n : Nat) : r5 v (n + 1) = ⟨3, 1, v, n + 1, xI n ++ [.int .i64 (-1)]⟩ := by simp [r5, xI_succ]
theorem rS_snoc (v : Value) (n : Nat) : rS v (n + 1) = ⟨22, 1, v, n + 1, xS n ++ [.slice none 0 0]⟩ := by simp [rS, xS_succ]
theorem rB_snoc (v : Value) (n : Nat) : rB v (n + 1) = ⟨4, 1, v, n + 1, xB n ++ [.bool false]⟩ := by simp [rB, xB_succ]
theorem rM_snoc (v : Value) (n : Nat) : rM v (n + 1) = ⟨47, 3, v, n + 1, xM n ++ [.slice none 0 0, .map none, .int .i64 0]⟩ := by
  have h := xM_succ n
  unfold zc at h
  rw [h]
  rfl

/-- A History that names just l, each name once: the values' shapes written out. -/
def Hs (w : World) (base hb b f : Nat) (n : Nat) (l : List ByteArray) (D E : DataW Unit) (ex : List RowI) (a3 a5 a6 a7 a8 a9 a10 a13 : Option Addr) (c3 c5 c6 c7 c8 c9 c10 c13 : Nat) : Prop :=
  HSt w base hb b f (hv b (.slice a3 n c3) (.slice a5 n c5) (.slice a6 n c6) (.slice a7 n c7) (.slice a8 n c8) (.slice a9 n c9) (.slice a10 n c10) (.slice a13 n c13))
    (r3 (.slice a3 n c3) n l :: r5 (.slice a5 n c5) n :: rS (.slice a6 n c6) n :: rS (.slice a7 n c7) n :: rS (.slice a8 n c8) n :: rB (.slice a9 n c9) n :: rB (.slice a10 n c10) n :: rM (.slice a13 n c13) n :: ex) D E

def Hist (w : World) (base hb b f : Nat) (n : Nat) (l : List ByteArray) (D E : DataW Unit) (ex : List RowI) : Prop :=
  ∃ a3 a5 a6 a7 a8 a9 a10 a13 c3 c5 c6 c7 c8 c9 c10 c13, Hs w base hb b f n l D E ex a3 a5 a6 a7 a8 a9 a10 a13 c3 c5 c6 c7 c8 c9 c10 c13

/-- The index is written. -/
theorem HSt.putD {w w1 : World} {base hb b f n : Nat} {vs : List Value} {rs : List RowI} {D D' E : DataW Unit} (h : HSt w base hb b f vs rs D E) (hown : w1.ownsMap Try.prog 9 (plainElem Try.prog 3) b n D') (ht : w.mapTurned w1 b) :
    HSt w1 base hb b f vs rs D' E ∧ Below base w w1 := by
  have hgr := ht.grown
  have hlt := lt_of_block h.blk
  refine ⟨⟨?_, h.rows.kept hgr (fun r hr => .inr (row_not_map h.map (h.rows.1 r hr))), h.tys, ?_, h.map2.kept hgr (by simpa using h.ne.symm), h.ne, h.hb0, h.b0, h.f0⟩, ?_⟩
  · rw [hgr.block hb hlt (by simpa using (cells_not_map h.map h.blk).symm)]
    exact h.blk
  · obtain ⟨es, clock, h1, h2, h3, rfl⟩ := hown
    exact ⟨es, clock, h1, h2, by simp [Maps.size, length_sorted], rfl⟩
  · exact (Below.refl _ _).grown hgr h.base_le (fun k hk => by cases hk; exact h.b0)

set_option maxHeartbeats 400000 in
theorem intern_old (hb b : Nat) (s : ByteArray) (v3 v5 v6 v7 v8 v9 v10 v13 : Value) (base f : Nat) (rs : List RowI) (D E : DataW Unit) (w : World) (h : HSt w base hb b f (hv b v3 v5 v6 v7 v8 v9 v10 v13) rs D E) (hs : s.size ≤ maxLen) (hh : Nm.hasS D s = true) :
    Calls Try.prog 34 #[.pointer (some ⟨hb, 0, none⟩), .string s] w fun e w' => e = .returned (.int .i64 (Nm.valS D s)) ∧ w' = w := by
  have k4 := (h.cell (j := 4) rfl).1
  have hlk := lookS h.map hs
  rw [hh] at hlk
  generalize Nm.valS D s = g at *
  clear h hh
  go_enter Try.func34, Try.ntmps34
  go_wp2
  go_ret
  exact ⟨rfl, rfl⟩

theorem hide2 {p : Prop} (h : p) : Hid p := h

set_option maxHeartbeats 2000000 in
theorem intern_new (hb b base f n : Nat) (s : ByteArray) (l : List ByteArray) (a3 a5 a6 a7 a8 a9 a10 a13 : Option Addr) (c3 c5 c6 c7 c8 c9 c10 c13 : Nat) (D E : DataW Unit) (ex : List RowI) (w : World)
    (h : Hs w base hb b f n l D E ex a3 a5 a6 a7 a8 a9 a10 a13 c3 c5 c6 c7 c8 c9 c10 c13) (hs : s.size ≤ maxLen) (hh : Nm.hasS D s = false) (hn : n ≤ 1000000) (hD : Maps.size D ≤ 1000000) :
    Calls Try.prog 34 #[.pointer (some ⟨hb, 0, none⟩), .string s] w fun e w' => e = .returned (.int .i64 (n : Int)) ∧ Hist w' base hb b f (n + 1) (l ++ [s]) (D.put (Nm.ks s) (Nm.vi n)) E ex ∧ Below base w w' := by
  unfold Hs at h
  have k3 := (h.cell (j := 3) rfl).1
  have k4 := (h.cell (j := 4) rfl).1
  have hlk := lookS h.map hs
  have hkey := key9 hs
  have hmap := h.map
  rw [hh] at hlk
  clear hh
  have HH := hide2 h
  clear h
  go_enter Try.func34, Try.ntmps34
  go_upto_region 6 with (at_mapUpdate; go_must (refine wpList_mapUpdate_in _ rfl _ _ _ 38 rfl 9 3 law9 Try.underlying38 (plainElem (H := Unit) Try.prog 3) b _ _ rfl hmap (by unfold maxLen; omega) _ _ _ rfl rfl hkey _ [] (plainElem_int Try.underlying3 (WalkArith.wf_i64 (by omega))) ?_); intro w1 hown1 hturn1)
  obtain ⟨S0, B0⟩ := HH.out.putD hown1 hturn1
  clear HH hmap hown1 hturn1 hlk k3 k4 hkey
  have k3 := (S0.cell (j := 3) rfl).1
  have z3 := S0.base_le
  go_upto_region 7 with (at_builtin; go_must (refine wpList_append_shaped _ rfl _ _ 34 rfl base 9 (.string ByteArray.empty) 1 16 Try.underlying34 info9 rfl (by decide) (.slice a3 n c3) n _ rfl ((S0.rows.1 (r3 (.slice a3 n c3) n l) (by simp)).alloc _) ⟨w1.heap.size, 0, none⟩ 1 1 [.string s] rfl rfl (cells_new _ [.string s] _) (by simp [Value.oneCell']) (by decide) (by show n + 1 ≤ maxLen; unfold maxLen; omega) (by show (n + 1) * 16 ≤ _; omega) (by simp; omega) ?_); go_must (intro g3 cap3 w3 hown3 hgr3 hloc3; have st3 := S0.step (pre := []) (r := r3 (.slice a3 n c3) n l) 3 rfl hown3 hgr3 (hloc3.elim .inl fun h => .inr (by simpa using h)); have m3 := st3.1 3 _ rfl))
  obtain ⟨_, S1, B1⟩ := st3
  clear k3 z3 m3 hown3 hgr3 hloc3
  generalize w3.setCell ⟨hb, 3, none⟩ (.slice (some ⟨g3, 0, none⟩) (n + 1) cap3) = W1 at *
  have k5 := (S1.cell (j := 5) rfl).1
  have z5 := S1.base_le
  go_upto_region 8 with (at_builtin; go_must (refine wpList_append_shaped _ rfl _ _ 22 rfl base 3 (.int .i64 0) 1 8 Try.underlying22 info3' rfl (by decide) (.slice a5 n c5) n _ rfl ((S1.rows.1 (r5 (.slice a5 n c5) n) (by simp)).alloc _) ⟨W1.heap.size, 0, none⟩ 1 1 [.int .i64 (-1)] rfl rfl (cells_new _ [.int .i64 (-1)] _) (by simp [Value.oneCell']) (by decide) (by show n + 1 ≤ maxLen; unfold maxLen; omega) (by show (n + 1) * 8 ≤ _; omega) (by simp; omega) ?_); go_must (intro g5 cap5 w5 hown5 hgr5 hloc5; have st5 := S1.step (pre := [(⟨9, 1, .slice (some ⟨g3, 0, none⟩) (n + 1) cap3, n + 1, (r3 (.slice a3 n c3) n l).xs ++ [.string s]⟩ : RowI)]) (r := r5 (.slice a5 n c5) n) 5 rfl hown5 hgr5 (hloc5.elim .inl fun h => .inr (by simpa using h)); have m5 := st5.1 5 _ rfl))
  obtain ⟨_, S2, B2⟩ := st5
  clear k5 z5 m5 hown5 hgr5 hloc5
  generalize w5.setCell ⟨hb, 5, none⟩ (.slice (some ⟨g5, 0, none⟩) (n + 1) cap5) = W2 at *
  have k6 := (S2.cell (j := 6) rfl).1
  have z6 := S2.base_le
  go_upto_region 9 with (at_builtin; go_must (refine wpList_append_shaped _ rfl _ _ 40 rfl base 22 (.slice none 0 0) 1 24 Try.underlying40 info22 rfl (by decide) (.slice a6 n c6) n _ rfl ((S2.rows.1 (rS (.slice a6 n c6) n) (by simp)).alloc _) ⟨W2.heap.size, 0, none⟩ 1 1 [.slice none 0 0] rfl rfl (cells_new _ [.slice none 0 0] _) (by simp [Value.oneCell']) (by decide) (by show n + 1 ≤ maxLen; unfold maxLen; omega) (by show (n + 1) * 24 ≤ _; omega) (by simp; omega) ?_); go_must (intro g6 cap6 w6 hown6 hgr6 hloc6; have st6 := S2.step (pre := [(⟨9, 1, .slice (some ⟨g3, 0, none⟩) (n + 1) cap3, n + 1, (r3 (.slice a3 n c3) n l).xs ++ [.string s]⟩ : RowI), (⟨3, 1, .slice (some ⟨g5, 0, none⟩) (n + 1) cap5, n + 1, (r5 (.slice a5 n c5) n).xs ++ [.int .i64 (-1)]⟩ : RowI)]) (r := rS (.slice a6 n c6) n) 6 rfl hown6 hgr6 (hloc6.elim .inl fun h => .inr (by simpa using h)); have m6 := st6.1 6 _ rfl))
  obtain ⟨_, S3, B3⟩ := st6
  clear k6 z6 m6 hown6 hgr6 hloc6
  generalize w6.setCell ⟨hb, 6, none⟩ (.slice (some ⟨g6, 0, none⟩) (n + 1) cap6) = W3 at *
  have k7 := (S3.cell (j := 7) rfl).1
  have z7 := S3.base_le
  go_upto_region 10 with (at_builtin; go_must (refine wpList_append_shaped _ rfl _ _ 40 rfl base 22 (.slice none 0 0) 1 24 Try.underlying40 info22 rfl (by decide) (.slice a7 n c7) n _ rfl ((S3.rows.1 (rS (.slice a7 n c7) n) (by simp)).alloc _) ⟨W3.heap.size, 0, none⟩ 1 1 [.slice none 0 0] rfl rfl (cells_new _ [.slice none 0 0] _) (by simp [Value.oneCell']) (by decide) (by show n + 1 ≤ maxLen; unfold maxLen; omega) (by show (n + 1) * 24 ≤ _; omega) (by simp; omega) ?_); go_must (intro g7 cap7 w7 hown7 hgr7 hloc7; have st7 := S3.step (pre := [(⟨9, 1, .slice (some ⟨g3, 0, none⟩) (n + 1) cap3, n + 1, (r3 (.slice a3 n c3) n l).xs ++ [.string s]⟩ : RowI), (⟨3, 1, .slice (some ⟨g5, 0, none⟩) (n + 1) cap5, n + 1, (r5 (.slice a5 n c5) n).xs ++ [.int .i64 (-1)]⟩ : RowI), (⟨22, 1, .slice (some ⟨g6, 0, none⟩) (n + 1) cap6, n + 1, (rS (.slice a6 n c6) n).xs ++ [.slice none 0 0]⟩ : RowI)]) (r := rS (.slice a7 n c7) n) 7 rfl hown7 hgr7 (hloc7.elim .inl fun h => .inr (by simpa using h)); have m7 := st7.1 7 _ rfl))
  obtain ⟨_, S4, B4⟩ := st7
  clear k7 z7 m7 hown7 hgr7 hloc7
  generalize w7.setCell ⟨hb, 7, none⟩ (.slice (some ⟨g7, 0, none⟩) (n + 1) cap7) = W4 at *
  have k8 := (S4.cell (j := 8) rfl).1
  have z8 := S4.base_le
  go_upto_region 11 with (at_builtin; go_must (refine wpList_append_shaped _ rfl _ _ 40 rfl base 22 (.slice none 0 0) 1 24 Try.underlying40 info22 rfl (by decide) (.slice a8 n c8) n _ rfl ((S4.rows.1 (rS (.slice a8 n c8) n) (by simp)).alloc _) ⟨W4.heap.size, 0, none⟩ 1 1 [.slice none 0 0] rfl rfl (cells_new _ [.slice none 0 0] _) (by simp [Value.oneCell']) (by decide) (by show n + 1 ≤ maxLen; unfold maxLen; omega) (by show (n + 1) * 24 ≤ _; omega) (by simp; omega) ?_); go_must (intro g8 cap8 w8 hown8 hgr8 hloc8; have st8 := S4.step (pre := [(⟨9, 1, .slice (some ⟨g3, 0, none⟩) (n + 1) cap3, n + 1, (r3 (.slice a3 n c3) n l).xs ++ [.string s]⟩ : RowI), (⟨3, 1, .slice (some ⟨g5, 0, none⟩) (n + 1) cap5, n + 1, (r5 (.slice a5 n c5) n).xs ++ [.int .i64 (-1)]⟩ : RowI), (⟨22, 1, .slice (some ⟨g6, 0, none⟩) (n + 1) cap6, n + 1, (rS (.slice a6 n c6) n).xs ++ [.slice none 0 0]⟩ : RowI), (⟨22, 1, .slice (some ⟨g7, 0, none⟩) (n + 1) cap7, n + 1, (rS (.slice a7 n c7) n).xs ++ [.slice none 0 0]⟩ : RowI)]) (r := rS (.slice a8 n c8) n) 8 rfl hown8 hgr8 (hloc8.elim .inl fun h => .inr (by simpa using h)); have m8 := st8.1 8 _ rfl))
  obtain ⟨_, S5, B5⟩ := st8
  clear k8 z8 m8 hown8 hgr8 hloc8
  generalize w8.setCell ⟨hb, 8, none⟩ (.slice (some ⟨g8, 0, none⟩) (n + 1) cap8) = W5 at *
  have k9 := (S5.cell (j := 9) rfl).1
  have z9 := S5.base_le
  go_upto_region 12 with (at_builtin; go_must (refine wpList_append_shaped _ rfl _ _ 41 rfl base 4 (.bool false) 1 1 Try.underlying41 info4 rfl (by decide) (.slice a9 n c9) n _ rfl ((S5.rows.1 (rB (.slice a9 n c9) n) (by simp)).alloc _) ⟨W5.heap.size, 0, none⟩ 1 1 [.bool false] rfl rfl (cells_new _ [.bool false] _) (by simp [Value.oneCell']) (by decide) (by show n + 1 ≤ maxLen; unfold maxLen; omega) (by show (n + 1) * 1 ≤ _; omega) (by simp; omega) ?_); go_must (intro g9 cap9 w9 hown9 hgr9 hloc9; have st9 := S5.step (pre := [(⟨9, 1, .slice (some ⟨g3, 0, none⟩) (n + 1) cap3, n + 1, (r3 (.slice a3 n c3) n l).xs ++ [.string s]⟩ : RowI), (⟨3, 1, .slice (some ⟨g5, 0, none⟩) (n + 1) cap5, n + 1, (r5 (.slice a5 n c5) n).xs ++ [.int .i64 (-1)]⟩ : RowI), (⟨22, 1, .slice (some ⟨g6, 0, none⟩) (n + 1) cap6, n + 1, (rS (.slice a6 n c6) n).xs ++ [.slice none 0 0]⟩ : RowI), (⟨22, 1, .slice (some ⟨g7, 0, none⟩) (n + 1) cap7, n + 1, (rS (.slice a7 n c7) n).xs ++ [.slice none 0 0]⟩ : RowI), (⟨22, 1, .slice (some ⟨g8, 0, none⟩) (n + 1) cap8, n + 1, (rS (.slice a8 n c8) n).xs ++ [.slice none 0 0]⟩ : RowI)]) (r := rB (.slice a9 n c9) n) 9 rfl hown9 hgr9 (hloc9.elim .inl fun h => .inr (by simpa using h)); have m9 := st9.1 9 _ rfl))
  obtain ⟨_, S6, B6⟩ := st9
  clear k9 z9 m9 hown9 hgr9 hloc9
  generalize w9.setCell ⟨hb, 9, none⟩ (.slice (some ⟨g9, 0, none⟩) (n + 1) cap9) = W6 at *
  have k10 := (S6.cell (j := 10) rfl).1
  have z10 := S6.base_le
  go_upto_region 13 with (at_builtin; go_must (refine wpList_append_shaped _ rfl _ _ 41 rfl base 4 (.bool false) 1 1 Try.underlying41 info4 rfl (by decide) (.slice a10 n c10) n _ rfl ((S6.rows.1 (rB (.slice a10 n c10) n) (by simp)).alloc _) ⟨W6.heap.size, 0, none⟩ 1 1 [.bool false] rfl rfl (cells_new _ [.bool false] _) (by simp [Value.oneCell']) (by decide) (by show n + 1 ≤ maxLen; unfold maxLen; omega) (by show (n + 1) * 1 ≤ _; omega) (by simp; omega) ?_); go_must (intro g10 cap10 w10 hown10 hgr10 hloc10; have st10 := S6.step (pre := [(⟨9, 1, .slice (some ⟨g3, 0, none⟩) (n + 1) cap3, n + 1, (r3 (.slice a3 n c3) n l).xs ++ [.string s]⟩ : RowI), (⟨3, 1, .slice (some ⟨g5, 0, none⟩) (n + 1) cap5, n + 1, (r5 (.slice a5 n c5) n).xs ++ [.int .i64 (-1)]⟩ : RowI), (⟨22, 1, .slice (some ⟨g6, 0, none⟩) (n + 1) cap6, n + 1, (rS (.slice a6 n c6) n).xs ++ [.slice none 0 0]⟩ : RowI), (⟨22, 1, .slice (some ⟨g7, 0, none⟩) (n + 1) cap7, n + 1, (rS (.slice a7 n c7) n).xs ++ [.slice none 0 0]⟩ : RowI), (⟨22, 1, .slice (some ⟨g8, 0, none⟩) (n + 1) cap8, n + 1, (rS (.slice a8 n c8) n).xs ++ [.slice none 0 0]⟩ : RowI), (⟨4, 1, .slice (some ⟨g9, 0, none⟩) (n + 1) cap9, n + 1, (rB (.slice a9 n c9) n).xs ++ [.bool false]⟩ : RowI)]) (r := rB (.slice a10 n c10) n) 10 rfl hown10 hgr10 (hloc10.elim .inl fun h => .inr (by simpa using h)); have m10 := st10.1 10 _ rfl))
  obtain ⟨_, S7, B7⟩ := st10
  clear k10 z10 m10 hown10 hgr10 hloc10
  generalize w10.setCell ⟨hb, 10, none⟩ (.slice (some ⟨g10, 0, none⟩) (n + 1) cap10) = W7 at *
  have k13 := (S7.cell (j := 13) rfl).1
  have z13 := S7.base_le
  go_upto_region 14 with (at_builtin; go_must (refine wpList_append_shaped _ rfl _ _ 42 rfl base 47 (.agg #[.slice none 0 0, .map none, .int .i64 0]) 3 40 Try.underlying42 info47 rfl (by decide) (.slice a13 n c13) n _ rfl ((S7.rows.1 (rM (.slice a13 n c13) n) (by simp)).alloc _) ⟨W7.heap.size, 0, none⟩ 1 1 [.slice none 0 0, .map none, .int .i64 0] rfl rfl (cells_new _ [.slice none 0 0, .map none, .int .i64 0] _) (by simp [Value.oneCell']) (by decide) (by show n + 1 ≤ maxLen; unfold maxLen; omega) (by show (n + 1) * 40 ≤ _; omega) (by simp; omega) ?_); go_must (intro g13 cap13 w13 hown13 hgr13 hloc13; have st13 := S7.step (pre := [(⟨9, 1, .slice (some ⟨g3, 0, none⟩) (n + 1) cap3, n + 1, (r3 (.slice a3 n c3) n l).xs ++ [.string s]⟩ : RowI), (⟨3, 1, .slice (some ⟨g5, 0, none⟩) (n + 1) cap5, n + 1, (r5 (.slice a5 n c5) n).xs ++ [.int .i64 (-1)]⟩ : RowI), (⟨22, 1, .slice (some ⟨g6, 0, none⟩) (n + 1) cap6, n + 1, (rS (.slice a6 n c6) n).xs ++ [.slice none 0 0]⟩ : RowI), (⟨22, 1, .slice (some ⟨g7, 0, none⟩) (n + 1) cap7, n + 1, (rS (.slice a7 n c7) n).xs ++ [.slice none 0 0]⟩ : RowI), (⟨22, 1, .slice (some ⟨g8, 0, none⟩) (n + 1) cap8, n + 1, (rS (.slice a8 n c8) n).xs ++ [.slice none 0 0]⟩ : RowI), (⟨4, 1, .slice (some ⟨g9, 0, none⟩) (n + 1) cap9, n + 1, (rB (.slice a9 n c9) n).xs ++ [.bool false]⟩ : RowI), (⟨4, 1, .slice (some ⟨g10, 0, none⟩) (n + 1) cap10, n + 1, (rB (.slice a10 n c10) n).xs ++ [.bool false]⟩ : RowI)]) (r := rM (.slice a13 n c13) n) 13 rfl hown13 hgr13 (hloc13.elim .inl fun h => .inr (by simpa using h)); have m13 := st13.1 13 _ rfl))
  obtain ⟨_, S8, B8⟩ := st13
  clear k13 z13 m13 hown13 hgr13 hloc13
  generalize w13.setCell ⟨hb, 13, none⟩ (.slice (some ⟨g13, 0, none⟩) (n + 1) cap13) = W8 at *
  go_wp2
  go_ret
  refine ⟨rfl, ⟨some ⟨g3, 0, none⟩, some ⟨g5, 0, none⟩, some ⟨g6, 0, none⟩, some ⟨g7, 0, none⟩, some ⟨g8, 0, none⟩, some ⟨g9, 0, none⟩, some ⟨g10, 0, none⟩, some ⟨g13, 0, none⟩, cap3, cap5, cap6, cap7, cap8, cap9, cap10, cap13, ?_⟩, (((((((B0.trans B1).trans B2).trans B3).trans B4).trans B5).trans B6).trans B7).trans B8⟩
  unfold Hs
  rw [r3_snoc, r5_snoc, rS_snoc, rS_snoc, rS_snoc, rB_snoc, rB_snoc, rM_snoc]
  exact S8

/-- intern, whole: l: the names that the History holds. -/
theorem intern_calls (hb b base f : Nat) (s : ByteArray) (l : List ByteArray) (D E : DataW Unit) (ex : List RowI) (w : World) (h : Hist w base hb b f l.length l D E ex) (hI : Nm.Idx D l (fun x => (Nm.pos x l : Int))) (hs : s.size ≤ maxLen) (hn : l.length ≤ 1000000) :
    Calls Try.prog 34 #[.pointer (some ⟨hb, 0, none⟩), .string s] w fun e w' => ∃ l' D', e = .returned (.int .i64 (Nm.pos s l' : Int)) ∧ l' = (if Nm.mem s l then l else l ++ [s]) ∧ Hist w' base hb b f l'.length l' D' E ex ∧ Nm.Idx D' l' (fun x => (Nm.pos x l' : Int)) ∧ Below base w w' := by
  obtain ⟨a3, a5, a6, a7, a8, a9, a10, a13, c3, c5, c6, c7, c8, c9, c10, c13, hH⟩ := h
  cases hm : Nm.mem s l
  · have hno := Nm.not_mem hm
    refine (intern_new hb b base f l.length s l a3 a5 a6 a7 a8 a9 a10 a13 c3 c5 c6 c7 c8 c9 c10 c13 D E ex w hH hs (by rw [hI.has, hm]) hn (by rw [hI.size]; exact hn)).mono ?_
    rintro e w' ⟨rfl, h1, h2⟩
    have e1 : Nm.pos s (l ++ [s]) = l.length := Nm.pos_snoc_new hno
    refine ⟨l ++ [s], D.put (Nm.ks s) (Nm.vi l.length), by rw [e1], by simp, by simpa using h1, ?_, h2⟩
    exact hI.put hno _ _ (fun x hx => by rw [Nm.pos_snoc_mem hx]) (by rw [e1])
  · have hyes := Nm.mem_iff.1 hm
    have hv := hI.val s hyes
    refine (intern_old hb b s _ _ _ _ _ _ _ _ base f _ D E w hH hs (by rw [hI.has, hm])).mono ?_
    rintro e w' ⟨rfl, rfl⟩
    exact ⟨l, D, by rw [hv], by simp, ⟨a3, a5, a6, a7, a8, a9, a10, a13, c3, c5, c6, c7, c8, c9, c10, c13, hH⟩, hI, Below.refl _ _⟩

end Go.Proofs.Qxb6601966a
