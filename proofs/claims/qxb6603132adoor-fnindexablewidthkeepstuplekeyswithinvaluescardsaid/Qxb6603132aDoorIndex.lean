/-
  indexable.
-/
import Derived.Test.Qxb6603132aDoorChunk
import Derived.Test.Qxb6603132aDoorSums
import Derived.Deep.CutRange
import Derived.BigRegion
import Derived.BigQuiet
import Derived.Deep.QuietTactic
namespace Go.Proofs.Qxb6603132aDoor
open Go Go.RowKit Go.Shelf

attribute [local go_sem] Oper.semAt_some

theorem at0 (w : World) (o1 o2 o3 o4 : Obj) : (((((w.alloc o1).alloc o2).alloc o3).alloc o4).drew).heap[w.heap.size]? = some o1 := by
  show ((((w.alloc o1).alloc o2).alloc o3).alloc o4).heap[w.heap.size]? = some o1
  rw [Below.heap_alloc _ _ _ (by simp; omega), Below.heap_alloc _ _ _ (by simp; omega), Below.heap_alloc _ _ _ (by simp)]
  exact heap_alloc_new _ _
theorem at1 (w : World) (o1 o2 o3 o4 : Obj) : (((((w.alloc o1).alloc o2).alloc o3).alloc o4).drew).heap[w.heap.size + 1]? = some o2 := by
  show ((((w.alloc o1).alloc o2).alloc o3).alloc o4).heap[w.heap.size + 1]? = some o2
  rw [Below.heap_alloc _ _ _ (by simp), Below.heap_alloc _ _ _ (by simp)]
  have := heap_alloc_new (w.alloc o1) o2
  rwa [World.size_alloc] at this
theorem at2 (w : World) (o1 o2 o3 o4 : Obj) : (((((w.alloc o1).alloc o2).alloc o3).alloc o4).drew).heap[w.heap.size + 1 + 1]? = some o3 := by
  show ((((w.alloc o1).alloc o2).alloc o3).alloc o4).heap[w.heap.size + 1 + 1]? = some o3
  rw [Below.heap_alloc _ _ _ (by simp)]
  have := heap_alloc_new ((w.alloc o1).alloc o2) o3
  rwa [World.size_alloc, World.size_alloc] at this
theorem at3 (w : World) (o1 o2 o3 o4 : Obj) : (((((w.alloc o1).alloc o2).alloc o3).alloc o4).drew).heap[w.heap.size + 1 + 1 + 1]? = some o4 := by
  show ((((w.alloc o1).alloc o2).alloc o3).alloc o4).heap[w.heap.size + 1 + 1 + 1]? = some o4
  have := heap_alloc_new (((w.alloc o1).alloc o2).alloc o3) o4
  rwa [World.size_alloc, World.size_alloc, World.size_alloc] at this
theorem atSize (w : World) (o1 o2 o3 o4 : Obj) : (((((w.alloc o1).alloc o2).alloc o3).alloc o4).drew).heap.size = w.heap.size + 4 := by
  show ((((w.alloc o1).alloc o2).alloc o3).alloc o4).heap.size = w.heap.size + 4
  simp
theorem atBelow (w : World) (o1 o2 o3 o4 : Obj) : Below w.heap.size w (((((w.alloc o1).alloc o2).alloc o3).alloc o4).drew) :=
  (((((Below.refl _ w).alloc (Nat.le_refl _) _).alloc (by simp) _).alloc (by simp; omega) _).alloc (by simp; omega) _).drew

/-- The two rows and their boxes, as region 7 leaves them. -/
def Tc (w wc : World) (k : Nat) (cs : Array Value) (v8 v9 : Value) : Prop := ∃ b8 b9 tb cb, v8 = .pointer (some ⟨b8, 0, none⟩) ∧ v9 = .pointer (some ⟨b9, 0, none⟩) ∧
  wc.heap[b8]? = some (.cells #[.slice (some ⟨tb, 0, none⟩) k k] 35 (0, 0)) ∧ wc.heap[b9]? = some (.cells #[.slice (some ⟨cb, 0, none⟩) k k] 35 (0, 0)) ∧ wc.heap[tb]? = some (.cells cs 3 (0, 0)) ∧ wc.heap[cb]? = some (.cells cs 3 (0, 0)) ∧
  w.heap.size ≤ b8 ∧ w.heap.size ≤ b9 ∧ w.heap.size ≤ tb ∧ w.heap.size ≤ cb ∧ tb ≠ cb ∧ b8 ≠ b9 ∧ wc.heap.size = w.heap.size + 4 ∧ Below w.heap.size w wc

theorem i3 : (Tryd.prog.info? 3).map (fun i => (i.zero, i.size, i.bytes)) = some (some (.int .i64 0), 1, 8) := by kernel_rfl

/-- The k cells of block b are the numbers g, and may be written. -/
def RowT (w : World) (b k : Nat) (g : Nat → Nat) : Prop := ∀ x, x < k → w.cell? ⟨b, x, none⟩ = some (.int .i64 ((g x : Nat) : Int)) ∧ w.frozen? ⟨b, x, none⟩ = false

/-- What the body's own cells hold when the chunks pre have come. -/
structure IB (ob b8 b9 tb cb k tot : Nat) (l : Nat → Nat) (N : Nat) (pre : List Nat) (W : World) : Prop where
  o : W.cell? ⟨ob, 0, none⟩ = some (.int .i64 (tot : Int))
  p8 : W.cell? ⟨b8, 0, none⟩ = some (.slice (some ⟨tb, 0, none⟩) k k)
  p9 : W.cell? ⟨b9, 0, none⟩ = some (.slice (some ⟨cb, 0, none⟩) k k)
  t : RowT W tb k (fun j => Wd.tuL tot l N k (j + 1) pre)
  c : RowT W cb k (fun j => Wd.cuL l N k (j + 1) pre)

theorem IB.own (ob b8 b9 tb cb k tot : Nat) (l : Nat → Nat) (N : Nat) : Own (IB ob b8 b9 tb cb k tot l N) := fun _ _ _ _ hs hg hr =>
  ⟨cell_kept hs.o hg hr, cell_kept hs.p8 hg hr, cell_kept hs.p9 hg hr, fun x hx => ⟨cell_kept (hs.t x hx).1 hg hr, (frozen_kept (hs.t x hx).1 hg hr).trans (hs.t x hx).2⟩, fun x hx => ⟨cell_kept (hs.c x hx).1 hg hr, (frozen_kept (hs.c x hx).1 hg hr).trans (hs.c x hx).2⟩⟩

theorem RowT.set {w : World} {b k : Nat} {g : Nat → Nat} (h : RowT w b k g) (y v : Nat) : RowT (w.setCell ⟨b, y, none⟩ (.int .i64 (v : Int))) b k (fun x => if x = y then v else g x) := by
  intro x hx
  obtain ⟨h1, h2⟩ := h x hx
  refine ⟨?_, by rw [World.frozen?_setCell]; exact h2⟩
  show _ = some (Value.int .i64 ((if x = y then v else g x : Nat) : Int))
  by_cases e : x = y
  · subst e
    rw [if_pos rfl]
    exact World.cell?_setCell_same _ _ _ h1
  · rw [if_neg e, World.cell?_setCell_other _ _ _ _ (fun e' => e (congrArg Addr.off e').symm)]
    exact h1
theorem RowT.other {w : World} {b k : Nat} {g : Nat → Nat} (h : RowT w b k g) {b' : Nat} (hne : b' ≠ b) (y : Nat) (u : Value) : RowT (w.setCell ⟨b', y, none⟩ u) b k g := fun x hx =>
  ⟨(World.cell?_setCell_other _ _ _ _ (fun e' => hne (congrArg Addr.block e'))).trans (h x hx).1, by rw [World.frozen?_setCell]; exact (h x hx).2⟩
theorem RowT.congr {w : World} {b k : Nat} {g g' : Nat → Nat} (h : RowT w b k g) (e : ∀ x, x < k → g x = g' x) : RowT w b k g' := fun x hx => by rw [← e x hx]; exact h x hx

/-- 'make([]int, k)', in whatever world. -/
theorem make35 (k : Nat) (hk : k ≤ 65536) : ∃ cs : Array Value, (∀ x, x < k → cs[x]? = some (.int .i64 0)) ∧ ∀ W : World, (Instr.makeSlice 35 (.int .i64 (k : Int)) (.int .i64 (k : Int))).run Tryd.prog W = .ok (.slice (some ⟨W.heap.size, 0, none⟩) k k) (W.alloc (.cells cs 3)) := by
  obtain ⟨i0, hi, hz0, hz1, hz2⟩ := info_parts i3
  refine ⟨madeCells (Value.int .i64 0).cells (k * i0.size), fun x hx => ?_, fun W => ?_⟩
  · rw [hz1, Nat.mul_one]
    have hl2 : (madeCells (Value.int .i64 0).cells k).toList = List.replicate k (Value.int .i64 0) := toList_madeCells_one _ k
    rw [← Array.getElem?_toList, hl2]
    simp [hx]
  · have h := run_make (P := Tryd.prog) W 35 3 i0 (.int .i64 0) Tryd.underlying35 hi hz0 .i64 .i64 (k : Int) (k : Int) (by omega) (Int.le_refl _) (by rw [hz2]; omega) (by omega)
    simpa using h

theorem below_drewN {B : Nat} {a b : World} (h : Below B a b) (n : Nat) : Below B a (b.drewN n) := ⟨h.os, h.tape, h.output, h.size, h.block⟩

theorem rounds (N k : Nat) (hk : 1 ≤ k) : ∃ R, ∀ q, q < R ↔ q * k < N := by
  refine ⟨(N + k - 1) / k, fun q => ?_⟩
  rw [← Nat.succ_le_iff, Nat.le_div_iff_mul_le (by omega), Nat.succ_mul]
  omega
theorem KC.put {B1 B2 : Nat} {w : World} (h1 : B1 < w.heap.size) (h2 : B2 < w.heap.size) (W : World) (l : Nat) (o o' : Obj) (hl : w.heap.size ≤ l) (_ : W.heap[l]? = some o) (_ : o.isCells = false) (_ : o.isWalk = false) : KC B1 B2 W (W.putObj l o') :=
  ⟨World.cell?_of_block (World.putObj_heap_other (by show B1 ≠ l; omega)), World.cell?_of_block (World.putObj_heap_other (by show B2 ≠ l; omega))⟩

set_option maxRecDepth 100000 in
set_option maxHeartbeats 2000000 in
theorem index_calls (l : Nat → Nat) (N k cg : Nat) (ag : Option Addr) (w : World) (hR : LRd w.heap.size w ag N l) (hNc : N ≤ cg) (hok : LOk l N k) :
    Calls Tryd.prog 16 #[.slice ag N cg, .int .i64 (k : Int)] w fun e w' => e = .returned (.int .i64 ((Wd.scan (fun v => decide (Wd.tu (Wd.sm l 0 N) l N k v N ≤ Wd.cu l N k v N)) k : Nat) : Int)) ∧ Below w.heap.size w w' := by
  have HR := hideS hR
  have HOk := hideS hok
  have hN := hok.n
  have hk1 := hok.k1
  have hk := hok.k
  clear hR hok
  refine (callsIn_wide (n := 4)).1 ?_
  refine callsIn_of_wp_marks Tryd.func16 rfl trivial ?_
  refine wpIn_wide.2 ?_
  simp only [Tryd.ntmps16, List.size_toArray, List.length_cons, List.length_nil, Nat.reduceAdd, Nat.reduceSub, Array.replicate_succ, Array.replicate_zero, List.push_toArray, List.append_toArray, List.nil_append, List.cons_append]
  go_wp2_with fail
  obtain ⟨W0, hW0⟩ : ∃ W0, W0 = w.alloc (.cells #[.int .i64 0] 3) := ⟨_, rfl⟩
  rw [← hW0]
  have hnew : W0.heap[w.heap.size]? = some (.cells #[.int .i64 0] 3 (0, 0)) := by rw [hW0]; exact heap_alloc_new w _
  have hs0 : W0.heap.size = w.heap.size + 1 := by rw [hW0]; simp
  have hb0 : Below w.heap.size w W0 := by rw [hW0]; exact (Below.refl _ _).alloc (Nat.le_refl _) _
  have t0 : W0.cell? ⟨w.heap.size, 0, none⟩ = some (.int .i64 0) := (cell_of_row _ w.heap.size 0 _ 3 _ hnew).trans (by simp)
  have z0 : W0.frozen? ⟨w.heap.size, 0, none⟩ = false := by simp [World.frozen?, hnew]
  obtain ⟨ob, hob⟩ : ∃ ob, ob = w.heap.size := ⟨_, rfl⟩
  rw [← hob] at t0 z0 ⊢
  have Hob := hideS hob
  have Hs0 := hideS hs0
  have Hb0 := hideS hb0
  have Ht0 := hideS t0
  have Hz0 := hideS z0
  clear hW0 hnew hs0 hb0 hob t0 z0
  go_loopw [18] (fun i wr => ∃ t : Nat, t ≤ N ∧ i = .int .i64 t ∧ wr.cell? ⟨ob, 0, none⟩ = some (.int .i64 (Wd.sm l 0 t : Nat)) ∧ wr.frozen? ⟨ob, 0, none⟩ = false ∧ Keeps [ob] W0 wr) (fun i _ => N - (intOf i).toNat)
  case atStart => exact ⟨0, Nat.zero_le _, rfl, Ht0.out, Hz0.out, Keeps.refl _ _⟩
  case round =>
    obtain ⟨t, ht, rfl, hc, hz, hKp⟩ := hrel
    have hsb := Nat.le_trans (Wd.sm_mono l 0 ht) HOk.out.tot
    have hbl : Below w.heap.size w wr := Hb0.out.trans (hKp.below (by have := Hob.out; simp; omega))
    by_cases hlt : t < N
    · obtain ⟨b, off, ra, hb, a, c, hc1⟩ := (HR.out.below hbl).at (i := t) hlt
      subst ra
      have hll := HOk.out.len hlt
      have Hs1 : Hid (Wd.sm l 0 (t + 1) = Wd.sm l 0 t + l t) := hideS (by rw [Wd.sm, Nat.zero_add])
      have hne : b ≠ ob := by have := Hob.out; omega
      have hltI : (t : Int) < (N : Int) := by omega
      generalize Wd.sm l 0 t = s0 at *
      generalize l t = x at *
      clear hbl
      go_wp2
      go_roundw
      case rel => exact ⟨t + 1, by omega, by go_num, by rw [World.cell?_setCell_same _ _ _ hc, Hs1.out]; go_num, by rw [World.frozen?_setCell]; exact hz, hKp.setCell (by simp) _⟩
      case measure => simp [intOf]; omega
    · obtain rfl : N = t := by omega
      have hltI : ¬ (N : Int) < (N : Int) := by omega
      have hbl2 : Below w.heap.size w wr := hbl
      have hsz : ob < wr.heap.size := by have := hKp.size; have := Hs0.out; have := Hob.out; omega
      obtain ⟨w2, rfl⟩ : ∃ w2, w2 = wr := ⟨_, rfl⟩
      have Hc := hideS hc
      have Hz := hideS hz
      have Hbl := hideS hbl
      clear hbl2 hKp hbl hc hz
      obtain ⟨cs, hcs, hmk⟩ := make35 k hk
      have Hcs := hideS hcs
      clear hcs
      go_upto_region 7 with fail
      go_cut [8, 9] from 27 to 30 (fun v8 v9 wc => Tc w2 wc k cs v8 v9)
      case first =>
        go_region
        all_goals
          go_wp2_with fail
          go_meet
          exact ⟨_, _, _, _, rfl, rfl, by first | exact at0 _ _ _ _ _ | exact at1 _ _ _ _ _ | exact at2 _ _ _ _ _ | exact at3 _ _ _ _ _, by first | exact at0 _ _ _ _ _ | exact at1 _ _ _ _ _ | exact at2 _ _ _ _ _ | exact at3 _ _ _ _ _, by first | exact at0 _ _ _ _ _ | exact at1 _ _ _ _ _ | exact at2 _ _ _ _ _ | exact at3 _ _ _ _ _, by first | exact at0 _ _ _ _ _ | exact at1 _ _ _ _ _ | exact at2 _ _ _ _ _ | exact at3 _ _ _ _ _, by omega, by omega, by omega, by omega, by omega, by omega, atSize _ _ _ _ _, atBelow _ _ _ _ _⟩
      case rest =>
        clear hmk
        obtain ⟨b8, b9, tb, cb, rfl, rfl, h8, h9, hT, hC, s1, s2, s3, s4, s5, s6, hwz, hBw⟩ := hcut
        have n1 : b8 ≠ tb := fun e => by rw [e, hT] at h8; simp at h8
        have n2 : b8 ≠ cb := fun e => by rw [e, hC] at h8; simp at h8
        have n3 : b9 ≠ tb := fun e => by rw [e, hT] at h9; simp at h9
        have n4 : b9 ≠ cb := fun e => by rw [e, hC] at h9; simp at h9
        have l1 := lt_of_block hT
        have l2 := lt_of_block hC
        have Hwz := hideS hwz
        have HBw := hideS hBw
        clear hwz hBw
        go_wp2_with fail
        refine (chunk_calls ag N cg k wc hk1 hk).mono ?_
        rintro e w3 ⟨rfl, hw3⟩
        have Hw3 := hideS hw3
        clear hw3
        obtain ⟨R, hR⟩ := rounds N k hk1
        obtain ⟨b, off, hag⟩ : ∃ b off, 0 < N → ag = some ⟨b, off, none⟩ ∧ b < w.heap.size := by
          by_cases hp : 0 < N
          · obtain ⟨b, off, e, hb, _⟩ := HR.out hp
            exact ⟨b, off, fun _ => ⟨e, hb⟩⟩
          · exact ⟨0, 0, fun h => absurd h hp⟩
        have hBB : Below wc.heap.size wc w3 := by rw [Hw3.out]; exact ((Below.refl _ _).alloc (Nat.le_refl _) _).alloc (by simp) _
        have hz3 : w3.heap.size = wc.heap.size + 2 := by rw [Hw3.out]; simp
        have hn1 : w3.cell? ⟨wc.heap.size, 0, none⟩ = some (.slice ag N cg) := by
          rw [Hw3.out]
          refine (((Below.refl _ (wc.alloc (.cells #[.slice ag N cg] 22))).alloc (Nat.le_refl _) _).cell (p := ⟨wc.heap.size, 0, none⟩) (by simp)).trans ?_
          exact (cell_of_row _ wc.heap.size 0 _ 22 _ (heap_alloc_new wc _)).trans (by simp)
        have hn2 : w3.cell? ⟨wc.heap.size + 1, 0, none⟩ = some (.int .i64 (k : Int)) := by
          rw [Hw3.out]
          have := heap_alloc_new (wc.alloc (.cells #[.slice ag N cg] 22)) (.cells #[.int .i64 (k : Int)] 3)
          rw [World.size_alloc] at this
          exact (cell_of_row _ (wc.heap.size + 1) 0 _ 3 _ this).trans (by simp)
        have HBB := hideS hBB
        have Hz3 := hideS hz3
        have Hn1 := hideS hn1
        have Hn2 := hideS hn2
        have HRr := hideS hR
        have Hag := hideS hag
        clear hBB hz3 hn1 hn2 hR hag
        go_wp2_with fail
        refine (wpIn_wide (n := 4)).1 ?_
        refine wpIn_rangeFunc_ownF rfl (by omega) (gf := 21) (lb := #[.pointer (some ⟨wc.heap.size, 0, none⟩), .pointer (some ⟨wc.heap.size + 1, 0, none⟩)]) rfl trivial (enters_of Tryd.func21 (by kernel_rfl) rfl)
          (chunk_stops Fence.wide (4 - 1) trivial rfl (by omega) wc.heap.size (wc.heap.size + 1) b off N cg k R ag (fun h => (Hag.out h).1) hN hNc hk1 hk HRr.out w3 (by have := Hz3.out; omega) (by have := Hz3.out; omega) Hn1.out Hn2.out)
          (fun h h' => KC.trans h h') (KC.put (by have := Hz3.out; omega) (by have := Hz3.out; omega)) (Below.refl _ _) (fun _ => rfl)
          (fun pre W => IB ob b8 b9 tb cb k (Wd.sm l 0 N) l N pre W ∧ Below w.heap.size w W) (fun _ _ _ => False)
          (OwnFrom.and (Own.from (IB.own ob b8 b9 tb cb k (Wd.sm l 0 N) l N) _) (ownFrom_below (Nat.le_refl _) (by have := Hz3.out; have := HBw.out.size; have := Hbl.out.size; omega)))
          (fun _ _ _ _ _ hs _ _ => hs) ?start (fun q => { tmps := #[.slice ag N cg, .int .i64 (k : Int), undef, undef, .int .i64 0, .pointer (some ⟨ob, 0, none⟩), undef, u7, .pointer (some ⟨b8, 0, none⟩), .pointer (some ⟨b9, 0, none⟩), chV b off N k q, undef, undef, undef, undef, undef, .slice ag N cg, .int .i64 (N : Int), .int .i64 (N : Int), .bool false, u20, u21, u22, u23, u24, u25, u26, u27, u28, u29, u30, .slice ag N cg, .int .i64 (k : Int), .func (.func 21) #[] #[.pointer (some ⟨wc.heap.size, 0, none⟩), .pointer (some ⟨wc.heap.size + 1, 0, none⟩)], chV b off N k q, undef, undef, undef, undef, undef, undef, undef, undef, undef, undef, undef, undef, undef, undef, undef, undef, undef, undef, undef, undef, undef, undef, undef, undef, undef, undef, undef, undef, undef, undef, undef, undef, undef, undef, undef, undef, undef, undef, undef, undef, undef, undef, undef, undef, undef, undef, undef, undef, undef, undef], defers := [] }) ?assign ?body ?done ?stop
        case assign =>
          intro l x W K hK
          gi_wp2
          exact hK
        case stop =>
          rintro D c pre W _ _ h _
          exact h.elim
        case start =>
          have hz := Hwz.out
          have bb := HBB.out
          have hrow : ∀ x, x < k → cs[x]? = some (.int .i64 0) := Hcs.out
          have l8 := lt_of_block h8
          have l9 := lt_of_block h9
          have hlt : ∀ y, wc.heap[y]? = some (.cells cs 3 (0, 0)) → y < wc.heap.size := fun y hy => lt_of_block hy
          have hr2 : ∀ y, wc.heap[y]? = some (.cells cs 3 (0, 0)) → RowT w3 y k (fun _ => 0) := fun y hy x hx =>
            ⟨(bb.cell (p := ⟨y, x, none⟩) (hlt y hy)).trans ((cell_of_row _ y x _ 3 _ hy).trans (hrow x hx)), (bb.frozen (p := ⟨y, x, none⟩) (hlt y hy)).trans (by simp [World.frozen?, hy])⟩
          refine ⟨⟨?_, (bb.cell (p := ⟨b8, 0, none⟩) l8).trans ((cell_of_row _ b8 0 _ 35 _ h8).trans (by simp)), (bb.cell (p := ⟨b9, 0, none⟩) l9).trans ((cell_of_row _ b9 0 _ 35 _ h9).trans (by simp)), hr2 tb hT, hr2 cb hC⟩, Hbl.out.trans ((HBw.out.mono Hbl.out.size).trans (bb.mono (by have := Hbl.out.size; omega)))⟩
          exact (bb.cell (p := ⟨ob, 0, none⟩) (show ob < wc.heap.size by omega)).trans ((HBw.out.cell (p := ⟨ob, 0, none⟩) hsz).trans Hc.out)
        case body =>
          rintro lo pre q W ⟨hI, hB⟩ hlen
          obtain ⟨st, hst⟩ : ∃ st, st = q * k := ⟨_, rfl⟩
          obtain ⟨m, hm⟩ : ∃ m, m = min k (N - st) := ⟨_, rfl⟩
          have hch : chV b off N k q = .slice (some ⟨b, off + st, none⟩) m m := by unfold chV; rw [← hst, ← hm]
          rw [hch]
          have Hst := hideS hst
          have Hm := hideS hm
          have HI := hideS hI
          have HB := hideS hB
          have hmk : m ≤ k := by omega
          clear hst hm hch hI hB
          obtain ⟨tot, htot⟩ : ∃ tot, tot = Wd.sm l 0 N := ⟨_, rfl⟩
          rw [← htot] at HI ⊢
          have htb : tot ≤ 32768 := by rw [htot]; exact HOk.out.tot
          have Htot := hideS htot
          clear htot
          gi_wp2_with fail
          gi_loopw [11, 12, 37] (fun p c i wr => ∃ j : Nat, j ≤ m ∧ i = .int .i64 j ∧ p = .int .i64 ((Wd.sp tot l st j : Nat) : Int) ∧ c = .int .i64 ((Wd.sm l st j : Nat) : Int) ∧
              RowT wr tb k (fun x => if x < j then Wd.tuL tot l N k (x + 1) (pre ++ [q]) else Wd.tuL tot l N k (x + 1) pre) ∧ RowT wr cb k (fun x => if x < j then Wd.cuL l N k (x + 1) (pre ++ [q]) else Wd.cuL l N k (x + 1) pre) ∧ Keeps [tb, cb] W wr ∧ KeepsOthers W wr) (fun _ _ i _ => m - (intOf i).toNat)
          case atStart => exact ⟨0, Nat.zero_le _, rfl, rfl, rfl, HI.out.t.congr (fun x _ => by simp), HI.out.c.congr (fun x _ => by simp), Keeps.refl _ _, KeepsOthers.refl _⟩
          case round =>
            obtain ⟨j, hj, rfl, rfl, rfl, hTr, hCr, hKp, hKO⟩ := hrel
            have hz := Hwz.out
            have hbw := Hbl.out.size
            have hblr : Below w.heap.size w wr := HB.out.trans (hKp.below (by simp; omega))
            have hob : wr.cell? ⟨ob, 0, none⟩ = some (.int .i64 (tot : Int)) := (hKp.cell (p := ⟨ob, 0, none⟩) (by simp; omega)).trans HI.out.o
            by_cases hlt : j < m
            · have hm := Hm.out
              have hstN : st + j < N := by omega
              obtain ⟨rfl, hbb⟩ := Hag.out (by omega)
              obtain ⟨b', off', e', _, a', c', hc'⟩ := (HR.out.below hblr).at (i := st + j) hstN
              cases e'
              rw [← Nat.add_assoc] at hc'
              have hRN : R ≤ N := by
                rcases Nat.lt_or_ge N R with h | h
                · have h1 := (HRr.out N).1 h
                  have h2 := Nat.le_mul_of_pos_right N hk1
                  omega
                · exact h
              have hp8 : wr.cell? ⟨b8, 0, none⟩ = some (.slice (some ⟨tb, 0, none⟩) k k) := (hKp.cell (p := ⟨b8, 0, none⟩) (by simp; omega)).trans HI.out.p8
              have hp9 : wr.cell? ⟨b9, 0, none⟩ = some (.slice (some ⟨cb, 0, none⟩) k k) := (hKp.cell (p := ⟨b9, 0, none⟩) (by simp; omega)).trans HI.out.p9
              obtain ⟨x, hx⟩ : ∃ x, x = l (st + j) := ⟨_, rfl⟩
              have hxl : x ≤ 32768 := by rw [hx]; exact HOk.out.len hstN
              rw [← hx] at hc'
              obtain ⟨p0, hp0⟩ : ∃ p0, p0 = Wd.sp tot l st j := ⟨_, rfl⟩
              obtain ⟨p1, hp1⟩ : ∃ p1, p1 = Wd.sp tot l st (j + 1) := ⟨_, rfl⟩
              obtain ⟨c0, hc0⟩ : ∃ c0, c0 = Wd.sm l st j := ⟨_, rfl⟩
              have hp0l : p0 ≤ 32769 := by rw [hp0]; have := Wd.sp_le tot l st j; omega
              have hp1l : p1 ≤ 32769 := by rw [hp1]; have := Wd.sp_le tot l st (j + 1); omega
              have hpp : p1 = min (p0 * x) (tot + 1) := by rw [hp1, hp0, hx]; rfl
              have hc1 : Wd.sm l st (j + 1) = c0 + x := by rw [hc0, hx]; rfl
              have hc0l : c0 ≤ 32768 := by rw [hc0]; exact Nat.le_trans (Wd.sm_in (by omega)) HOk.out.tot
              rw [← hp0, ← hc0]
              have hjk : j < k := by omega
              obtain ⟨t1, t2⟩ := hTr j hjk
              obtain ⟨t3, t4⟩ := hCr j hjk
              simp only [Nat.lt_irrefl, if_false] at t1 t3
              obtain ⟨u0, hu0⟩ : ∃ u0, u0 = Wd.tuL tot l N k (j + 1) pre := ⟨_, rfl⟩
              obtain ⟨v0, hv0⟩ : ∃ v0, v0 = Wd.cuL l N k (j + 1) pre := ⟨_, rfl⟩
              rw [← hu0] at t1
              rw [← hv0] at t3
              have hu0l : u0 ≤ 65536 * 32769 := by
                have h1 := Wd.tuL_le tot l N k (j + 1) pre
                have h2 : pre.length * (tot + 1) ≤ 65536 * 32769 := Nat.mul_le_mul (by omega) (by omega)
                omega
              have hv0l : v0 ≤ 65536 * 32768 := by
                have h1 := Wd.cuL_le l N k (j + 1) pre
                have h2 : pre.length * Wd.sm l 0 N ≤ 65536 * 32768 := Nat.mul_le_mul (by omega) (by have := HOk.out.tot; omega)
                omega
              have hcond : q * k + (j + 1) ≤ N := by rw [← Hst.out]; omega
              have hu1 : Wd.tuL tot l N k (j + 1) (pre ++ [q]) = u0 + p1 := by rw [Wd.tuL_snoc, if_pos hcond, ← hu0, ← Hst.out, ← hp1]
              have hv1 : Wd.cuL l N k (j + 1) (pre ++ [q]) = v0 + (c0 + x) := by rw [Wd.cuL_snoc, if_pos hcond, ← hv0, ← Hst.out, hc1]
              have HT2 := hideS ((hTr.set j (u0 + p1)).congr (g' := fun x => if x < j + 1 then Wd.tuL tot l N k (x + 1) (pre ++ [q]) else Wd.tuL tot l N k (x + 1) pre) (fun y _ => by
                by_cases e : y = j
                · subst e; simp [hu1]
                · have h1 : (y < j + 1) ↔ (y < j) := by omega
                  simp [e, h1]))
              have HC2 := hideS (((hCr.other s5 j (.int .i64 ((u0 + p1 : Nat) : Int))).set j (v0 + (c0 + x))).congr (g' := fun x => if x < j + 1 then Wd.cuL l N k (x + 1) (pre ++ [q]) else Wd.cuL l N k (x + 1) pre) (fun y _ => by
                by_cases e : y = j
                · subst e; simp [hv1]
                · have h1 : (y < j + 1) ↔ (y < j) := by omega
                  simp [e, h1]))
              obtain ⟨px, hpx⟩ : ∃ px, px = p0 * x := ⟨_, rfl⟩
              have hpxl : px ≤ 32769 * 32768 := by rw [hpx]; exact Nat.mul_le_mul hp0l hxl
              have ep : (p0 : Int) * (x : Int) = (px : Int) := by rw [hpx]; exact (Int.natCast_mul _ _).symm
              rw [← hpx] at hpp
              have hmin : (if (tot : Int) + 1 < (px : Int) then (tot : Int) + 1 else (px : Int)) = (p1 : Int) := by split <;> omega
              have hltI : (j : Int) < (m : Int) := by omega
              have hjkI : (j : Int) < (k : Int) := by omega
              have Hp1 := hideS hp1
              have Hc1 := hideS hc1
              have HKp := hideS hKp
              have HKO := hideS hKO
              have s5' : cb ≠ tb := fun e => s5 e.symm
              clear hTr hCr hpx hpp hu0 hv0 hu1 hv1 hp0 hp1 hc0 hc1 hx hm hcond hblr hKp hKO
              have e1 : ((u0 + p1 : Nat) : Int) = (u0 : Int) + (p1 : Int) := by omega
              have e2 : ((v0 + (c0 + x) : Nat) : Int) = (v0 : Int) + ((c0 : Int) + (x : Int)) := by omega
              have HT3 := hideS (HT2.out.other s5' j (.int .i64 ((v0 + (c0 + x) : Nat) : Int)))
              rw [e1] at HC2
              rw [e2] at HC2
              rw [e1, e2] at HT3
              clear e1 e2 HT2
              gi_wp2
              go_roundw
              case rel => exact ⟨j + 1, by omega, by go_num, by rw [← Hp1.out], by rw [Hc1.out]; go_num, HT3.out, HC2.out, (HKp.out.setCell (by simp) _).setCell (by simp) _, (HKO.out.trans (KeepsOthers.setCell _ _ _)).trans (KeepsOthers.setCell _ _ _)⟩
              case measure => simp [intOf]; omega
            · obtain rfl : j = m := by omega
              have hltI : ¬ (j : Int) < (j : Int) := by omega
              have HT2 : Hid (RowT wr tb k (fun x => Wd.tuL tot l N k (x + 1) (pre ++ [q]))) := hideS (hTr.congr (fun x hx => by
                by_cases e : x < j
                · simp only [if_pos e]
                · simp only [if_neg e]
                  rw [Wd.tuL_snoc, if_neg (by rw [← Hst.out]; have := Hm.out; omega)]
                  rfl))
              have HC2 : Hid (RowT wr cb k (fun x => Wd.cuL l N k (x + 1) (pre ++ [q]))) := hideS (hCr.congr (fun x hx => by
                by_cases e : x < j
                · simp only [if_pos e]
                · simp only [if_neg e]
                  rw [Wd.cuL_snoc, if_neg (by rw [← Hst.out]; have := Hm.out; omega)]
                  rfl))
              have HKp := hideS hKp
              have HKO := hideS hKO
              have Hblr := hideS hblr
              clear hTr hCr hKp hKO hblr
              generalize Wd.sp tot l st j = p0
              generalize Wd.sm l st j = c0
              gi_wp2
              exact ⟨HKO.out, ⟨HKp.out.cell (p := ⟨_, 0, none⟩) (by simp; omega), HKp.out.cell (p := ⟨_, 0, none⟩) (by simp; omega)⟩, ⟨hob, (HKp.out.cell (p := ⟨b8, 0, none⟩) (by simp; omega)).trans HI.out.p8, (HKp.out.cell (p := ⟨b9, 0, none⟩) (by simp; omega)).trans HI.out.p9, HT2.out, HC2.out⟩, Hblr.out⟩
        case done =>
          rintro D ys W hD rfl ⟨hI, hB⟩ hK
          have HI := hideS hI
          have HB := hideS hB
          have HK := hideS hK
          have HD := hideS hD
          clear hI hB hK hD
          have hRk : N ≤ R * k := by
            rcases Nat.lt_or_ge (R * k) N with h | h
            · exact absurd ((HRr.out R).2 h) (Nat.lt_irrefl R)
            · exact h
          obtain ⟨T, hT2⟩ : ∃ T, T = fun v => Wd.tu (Wd.sm l 0 N) l N k v N := ⟨_, rfl⟩
          obtain ⟨C, hC2⟩ : ∃ C, C = fun v => Wd.cu l N k v N := ⟨_, rfl⟩
          have HTr : Hid (∀ v, v < k → W.cell? ⟨tb, v, none⟩ = some (.int .i64 ((T (v + 1) : Nat) : Int)) ∧ T (v + 1) ≤ 65536 * 32769) := hideS (fun v hv => by
            have h1 : W.cell? ⟨tb, v, none⟩ = some (.int .i64 ((Wd.tuL (Wd.sm l 0 N) l N k (v + 1) (List.range R) : Nat) : Int)) := (HI.out.t v hv).1
            rw [show Wd.tuL (Wd.sm l 0 N) l N k (v + 1) (List.range R) = T (v + 1) by rw [Wd.tuL_range, Wd.tu_end hk1 (by omega) hRk, hT2]] at h1
            refine ⟨h1, ?_⟩
            rw [hT2]
            show Wd.tu (Wd.sm l 0 N) l N k (v + 1) N ≤ _
            rw [← Wd.tuL_range]
            have h2 := Wd.tuL_le (Wd.sm l 0 N) l N k (v + 1) (List.range N)
            have h3 : (List.range N).length * (Wd.sm l 0 N + 1) ≤ 65536 * 32769 := Nat.mul_le_mul (by simp; omega) (by have := HOk.out.tot; omega)
            omega)
          have HCr : Hid (∀ v, v < k → W.cell? ⟨cb, v, none⟩ = some (.int .i64 ((C (v + 1) : Nat) : Int)) ∧ C (v + 1) ≤ 32768) := hideS (fun v hv => by
            have h1 : W.cell? ⟨cb, v, none⟩ = some (.int .i64 ((Wd.cuL l N k (v + 1) (List.range R) : Nat) : Int)) := (HI.out.c v hv).1
            rw [show Wd.cuL l N k (v + 1) (List.range R) = C (v + 1) by rw [Wd.cuL_range, Wd.cu_end hk1 (by omega) hRk, hC2]] at h1
            refine ⟨h1, ?_⟩
            rw [hC2]
            exact Nat.le_trans (Wd.cu_total (by omega) N) HOk.out.tot)
          have hp8 := HI.out.p8
          have hp9 := HI.out.p9
          obtain ⟨P, hP⟩ : ∃ P : Nat → Bool, P = fun v => decide (Wd.tu (Wd.sm l 0 N) l N k v N ≤ Wd.cu l N k v N) := ⟨_, rfl⟩
          have HP : Hid (∀ v, P v = decide (T v ≤ C v)) := hideS (fun v => by rw [hP, hT2, hC2])
          have HPe := hideS hP
          clear hP hT2 hC2 HI hRk
          gi_wp2_with fail
          go_wp2_with fail
          go_loopw [15] (fun i wr => ∃ v : Nat, 1 ≤ v ∧ v ≤ k ∧ i = .int .i64 v ∧ Hid (Wd.scan P k = Wd.scan P v) ∧ wr.heap = W.heap ∧ Below w.heap.size w wr) (fun i _ => (intOf i).toNat)
          case atStart => exact ⟨k, hk1, Nat.le_refl _, rfl, hideS rfl, rfl, HB.out⟩
          case round =>
            obtain ⟨v, hv1, hvk, rfl, Hsc, hhp, hblr⟩ := hrel
            have Hhp := hideS hhp
            have Hblr := hideS hblr
            clear hhp hblr
            have hcell : ∀ p, wr.cell? p = W.cell? p := fun p => World.cell?_of_block (by rw [Hhp.out])
            by_cases hlt : 1 < v
            · obtain ⟨u, rfl⟩ : ∃ u, v = u + 1 := ⟨v - 1, by omega⟩
              obtain ⟨t1, t2⟩ := HTr.out u (by omega)
              obtain ⟨t3, t4⟩ := HCr.out u (by omega)
              rw [← hcell] at t1 t3 hp8 hp9
              have hgt : (1 : Int) < ((u + 1 : Nat) : Int) := by omega
              have Hst : Hid (Wd.scan P (u + 1) = if decide (T (u + 1) ≤ C (u + 1)) then u + 1 else Wd.scan P u) := hideS (by rw [Wd.scan_step hlt, HP.out]; rfl)
              have hu1 : u < k := by omega
              have hu2 : (u : Int) < (k : Int) := by omega
              clear hcell
              generalize T (u + 1) = tv at *
              generalize C (u + 1) = cv at *
              rw [show ((u + 1 : Nat) : Int) = (u : Int) + 1 by omega] at hgt ⊢
              have Hk2 := HK.out
              rw [← Hhp.out] at Hk2
              have HK2 := hideS Hk2
              clear Hk2
              by_cases hle : (tv : Int) ≤ (cv : Int)
              · go_wp2_with fail
                go_quiet (fail)
                go_wp2_with fail
                refine ⟨by simp, .inl ⟨_, _, rfl, run_takeDeferred (show (wr.drewN nq).heap[D]? = _ from HK2.out), ?_⟩⟩
                refine ⟨_, results_tmp rfl _ _ _, ?_, (below_drewN Hblr.out nq).trans (belowK_b (w := w) (Nat.le_refl _) (wr.drewN nq) D _ _ (by have := HD.out; have := Hz3.out; have := Hwz.out; have := Hbl.out.size; omega) HK2.out rfl rfl)⟩
                rw [← HPe.out, Hsc.out, Hst.out, if_pos (decide_eq_true (by omega))]
                rfl
              · go_wp2_with fail
                go_quiet (fail)
                go_wp2_with fail
                exact ⟨⟨u, by omega, by omega, rfl, hideS (by rw [Hsc.out, Hst.out, if_neg (by simp; omega)]), Hhp.out, below_drewN Hblr.out nq⟩, by simp [intOf]⟩
            · obtain rfl : v = 1 := by omega
              have hgt : ¬ (1 : Int) < (1 : Int) := by omega
              have Hk2 := HK.out
              rw [← Hhp.out] at Hk2
              have HK2 := hideS Hk2
              clear hcell Hk2
              go_wp2_with fail
              refine ⟨by simp, .inl ⟨_, _, rfl, run_takeDeferred HK2.out, ?_⟩⟩
              refine ⟨_, results_tmp rfl _ _ _, ?_, Hblr.out.trans (belowK_b (w := w) (Nat.le_refl _) wr D _ _ (by have := HD.out; have := Hz3.out; have := Hwz.out; have := Hbl.out.size; omega) HK2.out rfl rfl)⟩
              rw [← HPe.out, Hsc.out]
              rfl

end Go.Proofs.Qxb6603132aDoor
