/-
  zzCloneLists: new memory, the same lengths.
-/
import Derived.Test.Qxb6603132aDoorFit
import Derived.OwnWalk
import Derived.Lib.SliceRun
namespace Go.Proofs.Qxb6603132aDoor
open Go Go.RowKit

/-- w' is w but for the blocks of S (no block has come or gone). -/
structure Keeps (S : List Nat) (w w' : World) : Prop where
  os : w'.os = w.os
  tape : w'.tape = w.tape
  output : w'.output = w.output
  size : w'.heap.size = w.heap.size
  block : ∀ k, k ∉ S → w'.heap[k]? = w.heap[k]?
theorem Keeps.refl (S : List Nat) (w : World) : Keeps S w w := ⟨rfl, rfl, rfl, rfl, fun _ _ => rfl⟩
theorem Keeps.trans {S : List Nat} {a b c : World} (h : Keeps S a b) (k : Keeps S b c) : Keeps S a c :=
  ⟨k.os.trans h.os, k.tape.trans h.tape, k.output.trans h.output, k.size.trans h.size, fun i hi => (k.block i hi).trans (h.block i hi)⟩
theorem Keeps.setCell {S : List Nat} {a b : World} (h : Keeps S a b) {p : Addr} (hp : p.block ∈ S) (u : Value) : Keeps S a (b.setCell p u) :=
  h.trans ⟨rfl, rfl, rfl, by simp [World.setCell], fun k hk => Below.heap_setCell _ _ _ _ (fun e => hk (by rw [e]; exact hp))⟩
theorem Keeps.below {S : List Nat} {a b : World} (h : Keeps S a b) {B : Nat} (hS : ∀ k, k ∈ S → B ≤ k) : Below B a b :=
  ⟨h.os, h.tape, h.output, Nat.le_of_eq h.size.symm, fun k hk => h.block k (fun hm => by have := hS k hm; omega)⟩
theorem Keeps.cell {S : List Nat} {a b : World} (h : Keeps S a b) {p : Addr} (hp : p.block ∉ S) : b.cell? p = a.cell? p := World.cell?_of_block (h.block p.block hp)
theorem Keeps.frozen {S : List Nat} {a b : World} (h : Keeps S a b) {p : Addr} (hp : p.block ∉ S) : b.frozen? p = a.frozen? p := World.frozen?_of_block (h.block p.block hp)

/-- The n cells of block b hold z, and may be written. -/
def AllAt (w : World) (b n : Nat) (z : Value) : Prop := ∀ x, x < n → w.cell? ⟨b, x, none⟩ = some z ∧ w.frozen? ⟨b, x, none⟩ = false

/-- 'make([]T, n)' of one-cell elements: the run's equation. -/
theorem make_eq (t e : TypeId) (z : Value) (bytes : Nat) (hz : z.cells = #[z]) (h1 : Tryd.prog.underlying t = some (.slice e)) (hi : (Tryd.prog.info? e).map (fun i => (i.zero, i.size, i.bytes)) = some (some z, 1, bytes)) (w : World) (n : Nat) (b2 : bytes * n ≤ 281474976710656) (b3 : n ≤ maxLen) :
    ∃ w', (Instr.makeSlice t (.int .i64 (n : Int)) (.int .i64 (n : Int))).run Tryd.prog w = .ok (.slice (some ⟨w.heap.size, 0, none⟩) n n) w' ∧ AllAt w' w.heap.size n z ∧ Below w.heap.size w w' ∧ w'.heap.size = w.heap.size + 1 := by
  obtain ⟨i0, hi0, hz0, hz1, hz2⟩ := info_parts hi
  have hrun := run_make (P := Tryd.prog) w t e i0 z h1 hi0 hz0 .i64 .i64 (n : Int) (n : Int) (by omega) (Int.le_refl _) (by rw [hz2]; omega) (by unfold maxLen at b3; omega)
  have hnew := heap_alloc_new w (.cells (madeCells z.cells (n * i0.size)) e)
  refine ⟨_, by simpa using hrun, fun x hx => ⟨?_, ?_⟩, (Below.refl _ _).alloc (Nat.le_refl _) _, by simp⟩
  · rw [cell_of_row _ w.heap.size x _ e _ hnew, hz1, Nat.mul_one]
    have hl2 : (madeCells z.cells n).toList = List.replicate n z := by rw [hz]; exact toList_madeCells_one z n
    rw [← Array.getElem?_toList, hl2]
    simp [hx]
  · simp only [World.frozen?, hnew]
    simp

theorem i27 : (Tryd.prog.info? 27).map (fun i => (i.zero, i.size, i.bytes)) = some (some (.slice none 0 0), 1, 24) := by kernel_rfl
theorem i9 : (Tryd.prog.info? 9).map (fun i => (i.zero, i.size, i.bytes)) = some (some (.string ByteArray.empty), 1, 16) := by kernel_rfl

/-- n strings of at most 1<<20 bytes, at address a. -/
def StrsAt (B : Nat) (w : World) (a : Option Addr) (n : Nat) : Prop := ∀ x, x < n → ∃ b o s, a = some ⟨b, o, none⟩ ∧ b < B ∧ w.cell? ⟨b, o + x, none⟩ = some (.string s) ∧ s.size ≤ 1048576
theorem StrsAt.below {B : Nat} {w w' : World} {a : Option Addr} {n : Nat} (h : StrsAt B w a n) (hb : Below B w w') : StrsAt B w' a n := by
  intro x hx
  obtain ⟨b, o, s, e, hlt, hc, hs⟩ := h x hx
  exact ⟨b, o, s, e, hlt, (hb.cell (by exact hlt)).trans hc, hs⟩
theorem StrsAt.mono {B B' : Nat} {w : World} {a : Option Addr} {n : Nat} (h : StrsAt B w a n) (hb : B ≤ B') : StrsAt B' w a n := by
  intro x hx
  obtain ⟨b, o, s, e, hlt, hc, hs⟩ := h x hx
  exact ⟨b, o, s, e, by omega, hc, hs⟩
/-- A slice of slices of such strings. -/
def LSd (B : Nat) (w : World) (ag : Option Addr) (N : Nat) (l : Nat → Nat) : Prop :=
  0 < N → ∃ b off, ag = some ⟨b, off, none⟩ ∧ b < B ∧ ∀ i, i < N → ∃ a c, w.cell? ⟨b, off + i, none⟩ = some (.slice a (l i) c) ∧ StrsAt B w a (l i)
theorem LSd.weak {B : Nat} {w : World} {ag : Option Addr} {N : Nat} {l : Nat → Nat} (h : LSd B w ag N l) : LRd B w ag N l := by
  intro hp
  obtain ⟨b, off, e, hlt, hc⟩ := h hp
  refine ⟨b, off, e, hlt, fun i hi => ?_⟩
  obtain ⟨a, c, h1, _⟩ := hc i hi
  exact ⟨a, c, h1⟩
theorem LSd.at {B : Nat} {w : World} {ag : Option Addr} {N i : Nat} {l : Nat → Nat} (h : LSd B w ag N l) (hi : i < N) : ∃ b off, ag = some ⟨b, off, none⟩ ∧ b < B ∧ ∃ a c, w.cell? ⟨b, off + i, none⟩ = some (.slice a (l i) c) ∧ StrsAt B w a (l i) := by
  obtain ⟨b, off, e, hb, hc⟩ := h (by omega)
  exact ⟨b, off, e, hb, hc i hi⟩
theorem LSd.below {B : Nat} {w w' : World} {ag : Option Addr} {N : Nat} {l : Nat → Nat} (h : LSd B w ag N l) (hb : Below B w w') : LSd B w' ag N l := by
  intro hp
  obtain ⟨b, off, e, hlt, hc⟩ := h hp
  refine ⟨b, off, e, hlt, fun i hi => ?_⟩
  obtain ⟨a, c, h1, h2⟩ := hc i hi
  exact ⟨a, c, (hb.cell (by exact hlt)).trans h1, h2.below hb⟩
theorem LSd.mono {B B' : Nat} {w : World} {ag : Option Addr} {N : Nat} {l : Nat → Nat} (h : LSd B w ag N l) (hb : B ≤ B') : LSd B' w ag N l := by
  intro hp
  obtain ⟨b, off, e, hlt, hc⟩ := h hp
  refine ⟨b, off, e, by omega, fun i hi => ?_⟩
  obtain ⟨a, c, h1, h2⟩ := hc i hi
  exact ⟨a, c, h1, h2.mono hb⟩

/-- While the lists are cloned: l the lengths. -/
structure CL (W wr : World) (gb N t : Nat) (l : Nat → Nat) : Prop where
  cell : ∀ j, j < N → (∃ a c, wr.cell? ⟨gb, j, none⟩ = some (.slice a (if j < t then l j else 0) c) ∧ (∀ x, x < (if j < t then l j else 0) → ∃ b o s, a = some ⟨b, o, none⟩ ∧ b ≠ gb ∧ b < wr.heap.size ∧ wr.cell? ⟨b, o + x, none⟩ = some (.string s) ∧ s.size ≤ 1048576)) ∧ wr.frozen? ⟨gb, j, none⟩ = false
  os : wr.os = W.os
  tape : wr.tape = W.tape
  output : wr.output = W.output
  size : W.heap.size ≤ wr.heap.size
  block : ∀ k, k < W.heap.size → k ≠ gb → wr.heap[k]? = W.heap[k]?

theorem CL.start {W : World} {gb N : Nat} {l : Nat → Nat} (h : AllAt W gb N (.slice none 0 0)) : CL W W gb N 0 l :=
  ⟨fun j hj => ⟨⟨none, 0, by simpa using (h j hj).1, fun x hx => by simp at hx⟩, (h j hj).2⟩, rfl, rfl, rfl, Nat.le_refl _, fun _ _ _ => rfl⟩
theorem CL.skip {W wr : World} {gb N t : Nat} {l : Nat → Nat} (h : CL W wr gb N t l) (hz : l t = 0) : CL W wr gb N (t + 1) l := by
  refine ⟨fun j hj => ?_, h.os, h.tape, h.output, h.size, h.block⟩
  have := h.cell j hj
  by_cases e : j = t
  · subst e
    rw [if_pos (by omega), hz]
    rwa [if_neg (by omega)] at this
  · have h1 : (j < t + 1) ↔ (j < t) := by omega
    simp only [h1]
    exact this
theorem CL.step {W wr W5 : World} {gb N t : Nat} {l : Nat → Nat} (h : CL W wr gb N t l) (hgb : gb < W.heap.size) (hbl : Below wr.heap.size wr W5) (a : Option Addr) (c : Nat) (hnew : ∀ x, x < l t → ∃ b o s, a = some ⟨b, o, none⟩ ∧ b ≠ gb ∧ b < W5.heap.size ∧ W5.cell? ⟨b, o + x, none⟩ = some (.string s) ∧ s.size ≤ 1048576) : CL W (W5.setCell ⟨gb, t, none⟩ (.slice a (l t) c)) gb N (t + 1) l := by
  have hgr : gb < wr.heap.size := Nat.lt_of_lt_of_le hgb h.size
  refine ⟨fun j hj => ?_, hbl.os.trans h.os, hbl.tape.trans h.tape, hbl.output.trans h.output, by rw [World.size_setCell]; exact Nat.le_trans h.size hbl.size, fun k hk hne => ?_⟩
  · obtain ⟨⟨a', c', h1, hss⟩, h2⟩ := h.cell j hj
    have h1' := (hbl.cell (p := ⟨gb, j, none⟩) hgr).trans h1
    refine ⟨?_, by rw [World.frozen?_setCell]; exact (hbl.frozen (p := ⟨gb, j, none⟩) hgr).trans h2⟩
    by_cases e : j = t
    · subst e
      rw [if_pos (by omega)]
      refine ⟨a, c, World.cell?_setCell_same _ _ _ h1', fun x hx => ?_⟩
      obtain ⟨b, o, s, e1, e2, e3, e4, e5⟩ := hnew x hx
      exact ⟨b, o, s, e1, e2, by rw [World.size_setCell]; exact e3, (World.cell?_setCell_other _ _ _ _ (fun e' => e2 (congrArg Addr.block e').symm)).trans e4, e5⟩
    · have h3 : (j < t + 1) ↔ (j < t) := by omega
      simp only [h3]
      refine ⟨a', c', (World.cell?_setCell_other _ _ _ _ (fun e' => e (congrArg Addr.off e').symm)).trans h1', fun x hx => ?_⟩
      obtain ⟨b, o, s, e1, e2, e3, e4, e5⟩ := hss x hx
      exact ⟨b, o, s, e1, e2, by rw [World.size_setCell]; exact Nat.lt_of_lt_of_le e3 hbl.size, (World.cell?_setCell_other _ _ _ _ (fun e' => e2 (congrArg Addr.block e').symm)).trans ((hbl.cell (p := ⟨b, o + x, none⟩) e3).trans e4), e5⟩
  · rw [Below.heap_setCell _ _ _ _ (by simpa using hne), hbl.block k (Nat.lt_of_lt_of_le hk h.size)]
    exact h.block k hk hne
theorem CL.below {W wr : World} {gb N t B : Nat} {l : Nat → Nat} (h : CL W wr gb N t l) (hB : B ≤ W.heap.size) (hg : B ≤ gb) : Below B W wr :=
  ⟨h.os, h.tape, h.output, h.size, fun k hk => h.block k (by omega) (by omega)⟩

/-- The cells of a row that may be written. -/
def RowW (w : World) (b n : Nat) : Prop := ∀ x, x < n → (∃ v, w.cell? ⟨b, x, none⟩ = some (.string v) ∧ v.size ≤ 1048576) ∧ w.frozen? ⟨b, x, none⟩ = false
theorem RowW.set {w : World} {b n : Nat} (h : RowW w b n) (y : Nat) (u : ByteArray) (hu : u.size ≤ 1048576) : RowW (w.setCell ⟨b, y, none⟩ (.string u)) b n := by
  intro x hx
  obtain ⟨⟨v, h1, h3⟩, h2⟩ := h x hx
  refine ⟨?_, by rw [World.frozen?_setCell]; exact h2⟩
  by_cases e : x = y
  · subst e
    exact ⟨u, World.cell?_setCell_same _ _ _ h1, hu⟩
  · exact ⟨v, (World.cell?_setCell_other _ _ _ _ (fun e' => e (congrArg Addr.off e').symm)).trans h1, h3⟩

def ClonePost (w : World) (N : Nat) (l : Nat → Nat) (e : Ending) (w' : World) : Prop := ∃ ag c, e = .returned (.slice ag N c) ∧ N ≤ c ∧ LSd w'.heap.size w' ag N l ∧ Below w.heap.size w w'

set_option maxHeartbeats 1000000 in
theorem clone_calls (ad : Option Addr) (N cd : Nat) (dl : List InS) (w : World) (hin : SIn w ad N dl) (hN : N ≤ 65536) (hl : ∀ j, j < N → lenOf dl j ≤ 65536) (hsh : ShortS dl N) :
    Calls Tryd.prog 7 #[.slice ad N cd] w (ClonePost w N (lenOf dl)) := by
  have q22 : ∀ (w : World) (a : Option Addr) (n c n' c' : Nat), (binOp .eql 22 (.slice a n c) (.slice none n' c')).run Tryd.prog w = .ok (.bool a.isNone) w := fun w a n c n' c' => Lib.run_eql_slice_nil w _ _ a n c n' c' Tryd.underlying22
  have q27 : ∀ (w : World) (a : Option Addr) (n c n' c' : Nat), (binOp .eql 27 (.slice a n c) (.slice none n' c')).run Tryd.prog w = .ok (.bool a.isNone) w := fun w a n c n' c' => Lib.run_eql_slice_nil w _ _ a n c n' c' Tryd.underlying27
  cases ad with
  | none =>
    have h0 : N = 0 := by rw [hin.n, hin.ad rfl]; rfl
    subst h0
    clear hin hl hsh
    go_enter Tryd.func7, Tryd.ntmps7
    go_wp2
    go_ret
    exact ⟨none, 0, rfl, Nat.le_refl _, fun h => by omega, Below.refl _ _⟩
  | some x =>
    have HIn := hideS hin
    have Hl := hideS hl
    have Hsh := hideS hsh
    obtain ⟨W1, hmk, hA1, hB1, hS1⟩ := make_eq 22 27 (.slice none 0 0) 24 rfl Tryd.underlying22 i27 w N (by omega) (by unfold maxLen; omega)
    obtain ⟨gb, hgb⟩ : ∃ gb, gb = w.heap.size := ⟨_, rfl⟩
    rw [← hgb] at hmk hA1 hB1 hS1
    have Hgb := hideS hgb
    have HA1 := hideS hA1
    have HB1 := hideS hB1
    have HS1 := hideS hS1
    clear hin hl hA1 hB1 hS1 hgb hsh
    go_enter Tryd.func7, Tryd.ntmps7
    go_wp2_with fail
    go_loopw [4] (fun i wr => ∃ t : Nat, t ≤ N ∧ i = .int .i64 t ∧ CL W1 wr gb N t (lenOf dl)) (fun i _ => N - (intOf i).toNat)
    case atStart => exact ⟨0, Nat.zero_le _, rfl, CL.start HA1.out⟩
    case round =>
      clear hmk
      obtain ⟨t, ht, rfl, hC⟩ := hrel
      have HC := hideS hC
      have hgw : gb < wr.heap.size := by have := HS1.out; have := hC.size; omega
      have hbl : Below w.heap.size w wr := (HB1.out.mono (by have := Hgb.out; omega)).trans (hC.below (by have := HS1.out; have := Hgb.out; omega) (by have := Hgb.out; omega))
      clear hC
      by_cases hlt : t < N
      · obtain ⟨b, off, ra, hb, hc, hr⟩ := (HIn.out.dr.below hbl).at (m := t) (by have := HIn.out.n; omega)
        have hnil := HIn.out.nil t
        have hlen := Hl.out t hlt
        have Hlt : Hid (lenOf dl t = (dl.getD t s0).ss.length) := hideS rfl
        have hbw : b < wr.heap.size := Nat.lt_of_lt_of_le hb hbl.size
        rw [Hlt.out] at hlen
        have Hss : Hid (∀ i, i < (dl.getD t s0).ss.length → ((dl.getD t s0).ss.getD i ByteArray.empty).size ≤ 1048576) := hideS (fun i hi => Hsh.out t hlt i hi)
        have Hr := hideS hr
        clear hr
        generalize (dl.getD t s0).a = ai at *
        generalize (dl.getD t s0).c = ci at *
        generalize (dl.getD t s0).ss = ss at *
        have hltI : (t : Int) < (N : Int) := by omega
        cases ra
        cases ai with
        | none =>
          have hz := hnil rfl
          have HC2 := hideS (HC.out.skip (by rw [Hlt.out, hz]; rfl))
          rw [hz] at hc
          clear hnil HC hbl
          go_wp2
          go_roundw
          case rel => exact ⟨t + 1, by omega, by go_num, HC2.out⟩
          case measure => simp [intOf]; omega
        | some xi =>
          obtain ⟨W2, hmk2, hA2, hB2, hS2⟩ := make_eq 27 9 (.string ByteArray.empty) 16 rfl Tryd.underlying27 i9 wr ss.length (by omega) (by unfold maxLen; omega)
          obtain ⟨g, hg⟩ : ∃ g, g = wr.heap.size := ⟨_, rfl⟩
          rw [← hg] at hmk2 hA2 hB2 hS2 hgw hbw
          have Hg := hideS hg
          have hc2 := (hB2.cell (p := ⟨b, off + t, none⟩) hbw).trans hc
          have HW2 : Hid (RowW W2 g ss.length) := hideS (fun x hx => ⟨⟨_, (hA2 x hx).1, by simp⟩, (hA2 x hx).2⟩)
          have HB2 := hideS hB2
          have HS2 := hideS hS2
          have hb3 : b < w.heap.size := hb
          have hgw3 : w.heap.size ≤ g := by rw [hg]; exact hbl.size
          have Hbl := hideS hbl
          obtain ⟨wq, rfl⟩ : ∃ wq, wq = wr := ⟨_, rfl⟩
          clear hA2 hB2 hS2 hg hnil hbl
          go_wp2_with fail
          go_loopw [6] (fun i wv => ∃ j : Nat, j ≤ ss.length ∧ i = .int .i64 j ∧ RowW wv g ss.length ∧ Keeps [g] W2 wv) (fun i _ => ss.length - (intOf i).toNat)
          case atStart => exact ⟨0, Nat.zero_le _, rfl, HW2.out, Keeps.refl _ _⟩
          case round =>
            clear hmk2 hc2
            obtain ⟨j, hj, rfl, hW, hKp⟩ := hrel
            have hbg : b ≠ g := by omega
            have hc3 : wr.cell? ⟨b, off + t, none⟩ = some (.slice (some xi) ss.length ci) := (hKp.cell (p := ⟨b, off + t, none⟩) (by simpa using hbg)).trans ((HB2.out.cell (p := ⟨b, off + t, none⟩) hbw).trans hc)
            by_cases hltj : j < ss.length
            · obtain ⟨b1, o1, ra1, hb1, hc1⟩ := Hr.out.at hltj
              cases ra1
              have hc4 := (hKp.cell (p := ⟨b1, o1 + j, none⟩) (by simp; omega)).trans ((HB2.out.cell (p := ⟨b1, o1 + j, none⟩) (show b1 < g by omega)).trans hc1)
              obtain ⟨⟨v, hv, hv2⟩, hz⟩ := hW j hltj
              have hltjI : (j : Int) < (ss.length : Int) := by omega
              have HW3 := hideS (hW.set j (ss.getD j ByteArray.empty) (Hss.out j hltj))
              clear hc1 hc hW
              generalize ss.getD j ByteArray.empty = s at *
              go_wp2
              go_roundw
              case rel => exact ⟨j + 1, by omega, by go_num, HW3.out, hKp.setCell (by simp) _⟩
              case measure => simp [intOf]; omega
            · obtain rfl : j = ss.length := by omega
              obtain ⟨⟨a', c', k1, _⟩, k2⟩ := HC.out.cell t hlt
              have hgg : gb ≠ g := by omega
              have k1' := (hKp.cell (p := ⟨gb, t, none⟩) (by simpa using hgg)).trans ((HB2.out.cell (p := ⟨gb, t, none⟩) hgw).trans k1)
              have k2' := (hKp.frozen (p := ⟨gb, t, none⟩) (by simpa using hgg)).trans ((HB2.out.frozen (p := ⟨gb, t, none⟩) hgw).trans k2)
              have hbl5 : Below wq.heap.size wq wr := by
                rw [← Hg.out]
                exact HB2.out.trans (hKp.below (by simp))
              have HCs := hideS (HC.out.step (by have := HS1.out; omega) hbl5 (some ⟨g, 0, none⟩) ss.length (fun x hx => by
                rw [Hlt.out] at hx
                obtain ⟨⟨v, hv, hv2⟩, _⟩ := hW x hx
                exact ⟨g, 0, v, rfl, fun e => hgg e.symm, by have := hKp.size; have := HS2.out; omega, by rw [Nat.zero_add]; exact hv, hv2⟩))
              rw [Hlt.out] at HCs
              clear k1 k2 hc hbl5 hW
              go_wp2
              go_roundw
              case rel => exact ⟨t + 1, by omega, by go_num, HCs.out⟩
              case measure => simp [intOf]; omega
      · obtain rfl : t = N := by omega
        go_wp2
        go_ret
        refine ⟨_, _, rfl, Nat.le_refl _, fun hp => ⟨gb, 0, rfl, hgw, fun i hi => ?_⟩, hbl⟩
        obtain ⟨⟨a, c, h1, h2⟩, _⟩ := HC.out.cell i hi
        rw [if_pos hi] at h1 h2
        refine ⟨a, c, by rw [Nat.zero_add]; exact h1, fun x hx => ?_⟩
        obtain ⟨b, o, s, e1, _, e3, e4, e5⟩ := h2 x hx
        exact ⟨b, o, s, e1, e3, e4, e5⟩

end Go.Proofs.Qxb6603132aDoor
