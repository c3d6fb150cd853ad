/-
  tupleKeys of two lists or more, none empty.
-/
import Derived.Test.Qxb6603132aDoorKeys
namespace Go.Proofs.Qxb6603132aDoor
open Go Go.RowKit Go.Shelf

attribute [local go_sem] Oper.semAt_some

theorem RowT.same {w w' : World} {b k : Nat} {g : Nat → Nat} (h : RowT w b k g) (e : w'.heap[b]? = w.heap[b]?) : RowT w' b k g := fun x hx =>
  ⟨(World.cell?_of_block e).trans (h x hx).1, (World.frozen?_of_block e).trans (h x hx).2⟩
theorem Scr.same {w w' : World} {sb : Nat} (h : Scr w sb) (e : w'.heap[sb]? = w.heap[sb]?) : Scr w' sb := by
  obtain ⟨cur, h1, h2⟩ := h
  exact ⟨cur, e.trans h1, h2⟩
theorem Scr.lt {w : World} {sb : Nat} (h : Scr w sb) : sb < w.heap.size := by
  obtain ⟨cur, h1, h2⟩ := h
  exact lt_blk h1

/-- The keys so far. -/
def KRow (w : World) (B tb i cnt : Nat) : Prop := ∃ xs, w.ownsRow B 9 1 (.slice (some ⟨tb, 0, none⟩) i cnt) i xs
theorem KRow.same {w w' : World} {B tb i cnt : Nat} (h : KRow w B tb i cnt) (e : w'.heap[tb]? = w.heap[tb]?) : KRow w' B tb i cnt := by
  obtain ⟨xs, h1, h2⟩ := h
  refine ⟨xs, h1, ?_⟩
  rcases h2 with ⟨h3, _⟩ | ⟨g, cap, cur, hv, hb, hh, r⟩
  · cases h3
  · refine .inr ⟨g, cap, cur, hv, hb, ?_, r⟩
    cases hv
    exact e.trans hh
theorem KRow.lt {w : World} {B tb i cnt : Nat} (h : KRow w B tb i cnt) : tb < w.heap.size := by
  obtain ⟨xs, h1, h2⟩ := h
  rcases h2 with ⟨h3, _⟩ | ⟨g, cap, cur, hv, hb, hh, r⟩
  · cases h3
  · cases hv
    exact lt_blk hh
theorem KRow.le {w : World} {B tb i cnt : Nat} (h : KRow w B tb i cnt) : B ≤ tb := by
  obtain ⟨xs, h1, h2⟩ := h
  rcases h2 with ⟨h3, _⟩ | ⟨g, cap, cur, hv, hb, hh, r⟩
  · cases h3
  · cases hv
    exact hb

/-- The scratch array's zeros. -/
def zeros64 : Array Value := #[.int .u8 0, .int .u8 0, .int .u8 0, .int .u8 0, .int .u8 0, .int .u8 0, .int .u8 0, .int .u8 0, .int .u8 0, .int .u8 0, .int .u8 0, .int .u8 0, .int .u8 0, .int .u8 0, .int .u8 0, .int .u8 0, .int .u8 0, .int .u8 0, .int .u8 0, .int .u8 0, .int .u8 0, .int .u8 0, .int .u8 0, .int .u8 0, .int .u8 0, .int .u8 0, .int .u8 0, .int .u8 0, .int .u8 0, .int .u8 0, .int .u8 0, .int .u8 0, .int .u8 0, .int .u8 0, .int .u8 0, .int .u8 0, .int .u8 0, .int .u8 0, .int .u8 0, .int .u8 0, .int .u8 0, .int .u8 0, .int .u8 0, .int .u8 0, .int .u8 0, .int .u8 0, .int .u8 0, .int .u8 0, .int .u8 0, .int .u8 0, .int .u8 0, .int .u8 0, .int .u8 0, .int .u8 0, .int .u8 0, .int .u8 0, .int .u8 0, .int .u8 0, .int .u8 0, .int .u8 0, .int .u8 0, .int .u8 0, .int .u8 0, .int .u8 0]
theorem zeros64_size : zeros64.size = 64 := rfl

theorem TS.start {w : World} {sb : Nat} (h : Scr w sb) : TS sb w w (.slice (some ⟨sb, 0, none⟩) 0 64) 0 := by
  obtain ⟨cur, h1, h2⟩ := h
  exact ⟨⟨sb, 64, 36, cur, [], rfl, .inl rfl, h1, Nat.zero_le _, by unfold maxLen; omega, h2, by simp [Lib.byteCells], rfl⟩, ⟨cur, h1, h2⟩, rfl, rfl, rfl, Nat.le_refl _, fun _ _ _ => rfl⟩

theorem three0 (w : World) (o1 o2 o3 : Obj) : (((w.alloc o1).alloc o2).alloc o3).heap[w.heap.size]? = some o1 := by
  rw [Below.heap_alloc _ _ _ (by simp; omega), Below.heap_alloc _ _ _ (by simp)]
  exact heap_alloc_new _ _
theorem three1 (w : World) (o1 o2 o3 : Obj) : (((w.alloc o1).alloc o2).alloc o3).heap[w.heap.size + 1]? = some o2 := by
  rw [Below.heap_alloc _ _ _ (by simp)]
  have := heap_alloc_new (w.alloc o1) o2
  rwa [World.size_alloc] at this
theorem three2 (w : World) (o1 o2 o3 : Obj) : (((w.alloc o1).alloc o2).alloc o3).heap[w.heap.size + 1 + 1]? = some o3 := by
  have := heap_alloc_new ((w.alloc o1).alloc o2) o3
  rwa [World.size_alloc, World.size_alloc] at this

/-- While the keys are made: i of them, the places d. -/
structure KI (w0 w : World) (l d : Nat → Nat) (n cnt tb ab sb i : Nat) : Prop where
  lt : i < cnt
  own : KRow w w0.heap.size tb i cnt
  row : RowT w ab n d
  rng : ∀ x, x < n → d x < l x
  val : Wd.val l d n = i
  scr : Scr w sb
  bel : Below w0.heap.size w0 w

set_option maxRecDepth 100000 in
set_option maxHeartbeats 4000000 in
theorem keys_pos (l : Nat → Nat) (n cg : Nat) (ag : Option Addr) (w : World) (hR : LSd w.heap.size w ag n l) (hn : 2 ≤ n) (hn2 : n ≤ 65536) (hlen : ∀ i, i < n → l i ≤ 32768) (hpos : ∀ i, i < n → 0 < l i) (hp : Wd.pr l 0 n ≤ 65536)
    (hT : Lib.TabBelow Tryd.prog w.heap.size w tabName .u64 Lib.pow10Tab) : Calls Tryd.prog 15 #[.slice ag n cg] w (KPost w (Wd.pr l 0 n)) := by
  have HR := hideS hR
  have Hlen := hideS hlen
  have Hpos := hideS hpos
  have HT := hideS hT
  have hn1 : ((n : Int) == 1) = false := by rw [beq_eq_false_iff_ne]; omega
  have Hmo : Hid (∀ t, t ≤ n → Wd.pr l 0 t ≤ Wd.pr l 0 n) := hideS (fun t ht => Wd.pr_mono (fun i hi => by rw [Nat.zero_add]; exact hpos i hi) ht)
  have hpp : 0 < Wd.pr l 0 n := Wd.pr_pos (fun i hi => by rw [Nat.zero_add]; exact hpos i hi)
  obtain ⟨cnt, hcnt⟩ : ∃ cnt, cnt = Wd.pr l 0 n := ⟨_, rfl⟩
  rw [← hcnt] at hp hpp Hmo ⊢
  have Hcnt := hideS hcnt
  clear hR hlen hpos hcnt hT
  obtain ⟨cs, hcs, hmk⟩ := make27 cnt hp
  obtain ⟨cs2, hcs2, hmk2⟩ := make35 n hn2
  have Hcs := hideS hcs
  have Hcs2 := hideS hcs2
  clear hcs hcs2
  have hc0 : ((cnt : Int) == 0) = false := by rw [beq_eq_false_iff_ne]; omega
  go_enter Tryd.func15, Tryd.ntmps15
  go_wp2_with fail
  go_loop [3, 21] (fun c i => ∃ t : Nat, t ≤ n ∧ i = .int .i64 t ∧ c = .int .i64 ((Wd.pr l 0 t : Nat) : Int)) (fun _ i => n - (intOf i).toNat)
  case atStart => exact ⟨0, Nat.zero_le _, rfl, rfl⟩
  case round =>
    obtain ⟨t, ht, rfl, rfl⟩ := hrel
    by_cases hlt : t < n
    · obtain ⟨b, off, rfl, hb, a, c, hc, _⟩ := HR.out.at (i := t) hlt
      have hl := Hlen.out t hlt
      have hltI : (t : Int) < (n : Int) := by omega
      have h1 := Hmo.out t ht
      have h2 := Hmo.out (t + 1) hlt
      have h3 : Wd.pr l 0 (t + 1) = Wd.pr l 0 t * l t := by rw [Wd.pr, Nat.zero_add]
      obtain ⟨p0, hp0⟩ : ∃ p0, p0 = Wd.pr l 0 t := ⟨_, rfl⟩
      obtain ⟨p1, hp1⟩ : ∃ p1, p1 = Wd.pr l 0 (t + 1) := ⟨_, rfl⟩
      rw [← hp0] at h1 h3 ⊢
      rw [← hp1] at h2 h3
      have Hp1 := hideS hp1
      have e3 : (p0 : Int) * (l t : Int) = (p1 : Int) := by rw [h3]; exact (Int.natCast_mul _ _).symm
      clear h3 hp0 hp1
      generalize l t = y at *
      go_wp2
      go_round
      case rel => exact ⟨t + 1, by omega, by go_num, by rw [← Hp1.out]⟩
      case measure => simp [intOf]; omega
    · obtain rfl : n = t := by omega
      have hltI : ¬ (n : Int) < (n : Int) := by omega
      rw [← Hcnt.out]
      go_wp2_with fail
      rw [show (#[.int .u8 0, .int .u8 0, .int .u8 0, .int .u8 0, .int .u8 0, .int .u8 0, .int .u8 0, .int .u8 0, .int .u8 0, .int .u8 0, .int .u8 0, .int .u8 0, .int .u8 0, .int .u8 0, .int .u8 0, .int .u8 0, .int .u8 0, .int .u8 0, .int .u8 0, .int .u8 0, .int .u8 0, .int .u8 0, .int .u8 0, .int .u8 0, .int .u8 0, .int .u8 0, .int .u8 0, .int .u8 0, .int .u8 0, .int .u8 0, .int .u8 0, .int .u8 0, .int .u8 0, .int .u8 0, .int .u8 0, .int .u8 0, .int .u8 0, .int .u8 0, .int .u8 0, .int .u8 0, .int .u8 0, .int .u8 0, .int .u8 0, .int .u8 0, .int .u8 0, .int .u8 0, .int .u8 0, .int .u8 0, .int .u8 0, .int .u8 0, .int .u8 0, .int .u8 0, .int .u8 0, .int .u8 0, .int .u8 0, .int .u8 0, .int .u8 0, .int .u8 0, .int .u8 0, .int .u8 0, .int .u8 0, .int .u8 0, .int .u8 0, .int .u8 0] : Array Value) = zeros64 from rfl]
      have hb0 := three0 w (.cells cs 9) (.cells cs2 3) (.cells zeros64 36)
      have hb1 := three1 w (.cells cs 9) (.cells cs2 3) (.cells zeros64 36)
      have hb2 := three2 w (.cells cs 9) (.cells cs2 3) (.cells zeros64 36)
      have hbl : Below w.heap.size w (((w.alloc (.cells cs 9)).alloc (.cells cs2 3)).alloc (.cells zeros64 36)) := (((Below.refl _ w).alloc (Nat.le_refl _) _).alloc (by simp) _).alloc (by simp; omega) _
      generalize ((w.alloc (.cells cs 9)).alloc (.cells cs2 3)).alloc (.cells zeros64 36) = W3 at hb0 hb1 hb2 hbl ⊢
      obtain ⟨tb, htb⟩ : ∃ tb, tb = w.heap.size := ⟨_, rfl⟩
      rw [← htb] at hb0 hb1 hb2 ⊢
      obtain ⟨ab, hab⟩ : ∃ ab, ab = tb + 1 := ⟨_, rfl⟩
      rw [← hab] at hb1 hb2 ⊢
      obtain ⟨sb, hsb⟩ : ∃ sb, sb = ab + 1 := ⟨_, rfl⟩
      rw [← hsb] at hb2 ⊢
      have HK0 : Hid (KI w W3 l (fun _ => 0) n cnt tb ab sb 0) := hideS
        ⟨hpp, ⟨[], by simp, .inr ⟨tb, cnt, cs, rfl, by omega, hb0, Nat.zero_le _, by unfold maxLen; omega, by rw [Hcs.out, Nat.mul_one], by simp⟩⟩, fun x hx => ⟨(cell_of_row _ ab x _ 3 _ hb1).trans (by rw [Hcs2.out x hx]; rfl), by simp [World.frozen?, hb1]⟩, Hpos.out, by
          have := Wd.val_zero (l := l) (d := fun _ => 0) (j := 0) n (fun _ _ _ => rfl)
          rw [Nat.zero_add] at this
          rw [this, Wd.val, Nat.zero_mul], ⟨zeros64, hb2, zeros64_size⟩, hbl⟩
      have n1 : tb ≠ ab := by omega
      have n2 : tb ≠ sb := by omega
      have n3 : ab ≠ sb := by omega
      have g1 : w.heap.size ≤ tb := by omega
      have g2 : w.heap.size ≤ ab := by omega
      have g3 : w.heap.size ≤ sb := by omega
      have hsl : ∀ W, (Instr.sliceAt 36 (.pointer (some ⟨sb, 0, none⟩)) none (some (.int .i64 0)) none).run Tryd.prog W = .ok (.slice (some ⟨sb, 0, none⟩) 0 64) W := fun W => by
        have hal : Tryd.prog.arrayLen 36 = 64 := by simp [Program.arrayLen, Tryd.underlying36]
        rw [run_sliceAt_array_h W 36 ⟨sb, 0, none⟩ (by simp [Program.arrayLen, Program.elem, Tryd.underlying36]) .i64 0 (by omega) (by rw [hal]; omega)]
        go_simp
      clear hb0 hb1 hb2 hbl htb hab hsb hmk hmk2
      go_loopw [6] (fun v wr => ∃ (i : Nat) (d : Nat → Nat), v = .slice (some ⟨tb, 0, none⟩) i cnt ∧ KI w wr l d n cnt tb ab sb i) (fun v _ => cnt - lenV v)
      case atStart => exact ⟨0, fun _ => 0, rfl, HK0.out⟩
      case round =>
        obtain ⟨i, d, rfl, hK⟩ := hrel
        have HK := hideS hK
        clear hK HK0
        obtain ⟨wq, rfl⟩ : ∃ wq, wq = wr := ⟨_, rfl⟩
        go_wp2_with fail
        go_loopw [9, 41] (fun v i wr => ∃ j m : Nat, j ≤ n ∧ i = .int .i64 j ∧ m ≤ j * 2097152 ∧ TS sb wq wr v m) (fun _ i _ => n - (intOf i).toNat)
        case atStart => exact ⟨0, 0, Nat.zero_le _, rfl, Nat.zero_le _, TS.start HK.out.scr⟩
        case round =>
          obtain ⟨j, m, hj, rfl, hm, hTS⟩ := hrel
          have HTS := hideS hTS
          clear hTS
          by_cases hlt : j < n
          · obtain ⟨b, off, rfl, hb, a, c, hc, hstr⟩ := HR.out.at (i := j) hlt
            have hd := HK.out.rng j hlt
            have hl := Hlen.out j hlt
            obtain ⟨b1, o1, s, ra, hb1, hc1, hs⟩ := hstr (d j) hd
            subst ra
            have Hcell : Hid (∀ (wx : World) (vx : Value) (mx : Nat), TS sb wq wx vx mx → wx.cell? ⟨b, off + j, none⟩ = some (.slice (some ⟨b1, o1, none⟩) (l j) c) ∧ wx.cell? ⟨ab, j, none⟩ = some (.int .i64 ((d j : Nat) : Int)) ∧ wx.cell? ⟨b1, o1 + d j, none⟩ = some (.string s) ∧ Below w.heap.size w wx) := hideS (fun wx vx mx hx => by
              have hbx := HK.out.bel.trans (hx.below (B := w.heap.size) HK.out.bel.size g3)
              exact ⟨(hbx.cell (p := ⟨b, off + j, none⟩) hb).trans hc, ((HK.out.row.same (hx.block ab (by have := (World.block_lt_of_cell? wq _ (HK.out.row j hlt).1); exact this) n3)) j hlt).1, (hbx.cell (p := ⟨b1, o1 + d j, none⟩) hb1).trans hc1, hbx⟩)
            obtain ⟨f1, f2, f3, f4⟩ := Hcell.out _ _ _ HTS.out
            have Hbx := hideS f4
            have hltI : (j : Int) < (n : Int) := by omega
            have hdI : ((d j : Nat) : Int) < ((l j : Nat) : Int) := by omega
            clear hc hc1 f4 hstr
            generalize l j = lj at *
            generalize d j = dj at *
            by_cases hl1 : (j : Int) < (n : Int) - 1
            · go_wp2_with fail
              refine (appendInt_calls HTS.out s.size hs (by omega) (HT.out.on Hbx.out).here).mono ?_
              rintro e w5 ⟨v5, m5, rfl, hm5, h5⟩
              have H5 := hideS h5
              clear h5 f1 f2 f3
              go_wp2_with (at_builtin; refine wpList_append_ts rfl _ _ rfl rfl (H5.out.alloc _) [58] 1 1 ⟨w5.heap.size, 0, none⟩ rfl rfl (by intro x u' hx; match x, hx with | 0, hx => simp [Lib.byteCells] at hx; subst hx; simp [Addr.add]) (by omega) ?_)
              intro v6 w6 h6
              obtain ⟨k1, k2, k3, _⟩ := Hcell.out _ _ _ h6
              have H6 := hideS h6
              clear h6
              go_wp2_with (at_builtin; refine wpList_append_ts_string rfl _ _ rfl rfl H6.out s rfl (by omega) ?_)
              intro v7 w7 h7
              have H7 := hideS h7
              clear h7 k1 k2 k3
              go_wp2
              go_roundw
              case rel => exact ⟨j + 1, _, by omega, by go_num, by omega, H7.out⟩
              case measure => simp [intOf]; omega
            · go_wp2_with (at_builtin; refine wpList_append_ts_string rfl _ _ rfl rfl HTS.out s rfl (by omega) ?_)
              intro v7 w7 h7
              have H7 := hideS h7
              clear h7 f1 f2 f3
              go_wp2
              go_roundw
              case rel => exact ⟨j + 1, _, by omega, by go_num, by omega, H7.out⟩
              case measure => simp [intOf]; omega
          · obtain rfl : j = n := by omega
            have hltI : ¬ (j : Int) < (j : Int) := by omega
            obtain ⟨g, cap, T, cur, lb, rfl, hg, hh, hmc, hcm, hcs, ht, hl⟩ := HTS.out.row
            have hcv := run_convert_bytes_back (P := Tryd.prog) wr 37 9 5 ⟨g, 0, none⟩ cap lb Tryd.underlying37 Tryd.underlying5 Tryd.underlying9 (fun x hx => by
              rw [Addr.add_lit, Nat.zero_add, cell_of_row wr g x cur T _ hh, ← Array.getElem?_toList]
              have h1 : (cur.toList.take m)[x]? = some (.int .u8 (lb[x].toNat : Int)) := by rw [ht]; simp [Lib.byteCells, hx]
              rw [List.getElem?_take] at h1
              split at h1
              · exact h1
              · cases h1)
            rw [hl] at hcv
            have hlr := HK.out.own.lt
            have hla : ab < wq.heap.size := by have := (World.block_lt_of_cell? wq _ (HK.out.row 0 (by omega)).1); exact this
            have hlw := HTS.out.size
            obtain ⟨xs, hown⟩ : KRow (wr.alloc (.cells #[.string ⟨lb.toArray⟩] 9)) w.heap.size tb i cnt := HK.out.own.same ((Below.heap_alloc _ _ _ (by omega)).trans (HTS.out.block tb hlr n2))
            have Hown := hideS hown
            obtain ⟨i0, hi0, hz0, hz1, hz2⟩ := info_parts i9
            have hic := HK.out.lt
            clear hh hmc hcm hcs ht hl hg hown
            go_wp2_with (at_builtin; refine wpList_append_fits _ rfl _ _ 27 rfl w.heap.size 9 i0 1 Tryd.underlying27 hi0 hz1 tb i cnt xs rfl Hown.out ⟨wr.heap.size, 0, none⟩ 1 1 [Value.string ⟨lb.toArray⟩] rfl rfl (by intro x u' hx; match x, hx with | 0, hx => simp at hx; subst hx; simp [Addr.add]) (by intro u' hu'; simp at hu'; subst hu'; rfl) (by omega) ?_)
            intro w5 hown5 hgr
            have hblk : ∀ k, k < wr.heap.size → k ≠ tb → w5.heap[k]? = wr.heap[k]? := fun k hk hne => (hgr.block k (by simp; omega) (by simpa using hne)).trans (Below.heap_alloc _ _ _ hk)
            have HK5 : Hid (KRow w5 w.heap.size tb (i + 1) cnt) := hideS ⟨_, hown5⟩
            have HR5 : Hid (RowT w5 ab j d) := hideS (HK.out.row.same ((hblk ab (by omega) (fun e => n1 e.symm)).trans (HTS.out.block ab hla n3)))
            have HS5 : Hid (Scr w5 sb) := hideS (HTS.out.scr.same (hblk sb HTS.out.scr.lt (fun e => n2 e.symm)))
            have HB5 : Hid (Below w.heap.size w w5) := hideS (HK.out.bel.trans ((HTS.out.below (B := w.heap.size) HK.out.bel.size g3).trans ⟨hgr.os, hgr.tape, hgr.output, by have := hgr.size; simp at this; omega, fun k hk => hblk k (by have := HK.out.bel.size; omega) (by omega)⟩))
            have Hrng := hideS HK.out.rng
            have Hval := hideS HK.out.val
            have hs5 : wr.heap.size ≤ w5.heap.size := by have := hgr.size; simp at this; omega
            clear hown5 hgr hblk Hown hcv HTS hi0 hz0 hz1 hz2
            go_wp2_with fail
            go_loopw [12] (fun v wr => ∃ q : Nat, q ≤ j ∧ v = .int .i64 ((q : Int) - 1) ∧ RowT wr ab j (fun x => if x < q then d x else 0) ∧ Hid (Wd.Wind l d j q) ∧ Keeps [ab] w5 wr) (fun v _ => (intOf v + 1).toNat)
            case atStart => exact ⟨j, Nat.le_refl _, by go_num, HR5.out.congr (fun x hx => by rw [if_pos hx]), hideS (Wd.Wind.start l d j), Keeps.refl _ _⟩
            case round =>
              obtain ⟨q, hq, rfl, hrow, Hw, hKp⟩ := hrel
              have HKp := hideS hKp
              have hbw : Below w.heap.size w wr := HB5.out.trans (hKp.below (by simp; omega))
              have Hbw := hideS hbw
              clear hKp hbw
              cases q with
              | zero =>
                have hlast : i + 1 = cnt := by rw [Hcnt.out, ← Wd.Wind.last Hw.out, Hval.out]
                have Hlast := hideS hlast
                clear hlast
                rw [show (((0 : Nat) : Int) - 1) = -1 by rfl]
                go_wp2
                go_ret
                refine ⟨⟨some ⟨tb, 0, none⟩, cnt, ?_⟩, Hbw.out⟩
                show Ending.returned (Value.slice (some ⟨tb, 0, none⟩) (i + 1) cnt) = _
                rw [Hlast.out]
              | succ q =>
                rw [show (((q + 1 : Nat) : Int) - 1) = (q : Int) by omega]
                obtain ⟨r1, r2⟩ := hrow q (by omega)
                simp only [show q < q + 1 by omega, if_true] at r1
                obtain ⟨b, off, rfl, hb, a, c, hc, _⟩ := (HR.out.below Hbw.out).at (i := q) (by omega)
                have hne : ab ≠ b := by omega
                have hd := Hrng.out q (by omega)
                have hl := Hlen.out q (by omega)
                have hqI : (q : Int) < (j : Int) := by omega
                have HR6 := hideS (hrow.set q (d q + 1))
                have Hdq : Hid (d q + 1 = l q → Wd.Wind l d j q) := hideS (fun h => Wd.Wind.next Hw.out (by omega) h)
                have Hst := hideS (Wd.Wind.stop Hw.out (by omega))
                obtain ⟨x, hx⟩ : ∃ x, x = d q := ⟨_, rfl⟩
                obtain ⟨y, hy⟩ : ∃ y, y = l q := ⟨_, rfl⟩
                rw [← hx] at r1 hd HR6
                rw [← hy] at hc hd hl
                have Hx := hideS hx
                have Hy := hideS hy
                have e1 : ((x + 1 : Nat) : Int) = (x : Int) + 1 := by omega
                rw [e1] at HR6
                clear hrow hx hy e1
                by_cases hlt2 : (x : Int) + 1 < (y : Int)
                · go_wp2_with fail
                  go_quiet (fail)
                  go_wp2_with fail
                  have hkx : Keeps [ab] w5 ((wr.setCell ⟨ab, q, none⟩ (.int .i64 ((x : Int) + 1))).drewN nq) := by
                    have h := HKp.out.setCell (p := ⟨ab, q, none⟩) (by simp) (.int .i64 ((x : Int) + 1))
                    exact ⟨h.os, h.tape, h.output, h.size, h.block⟩
                  refine ⟨⟨i + 1, fun z => if z = q then d q + 1 else if z < q + 1 then d z else 0, rfl, ?_⟩, by simp [lenV]; omega⟩
                  have hrng : ∀ z, z < j → (fun z => if z = q then d q + 1 else if z < q + 1 then d z else 0) z < l z := fun z hz => by
                    show (if z = q then d q + 1 else if z < q + 1 then d z else 0) < l z
                    by_cases ez : z = q
                    · rw [if_pos ez, ez, ← Hx.out, ← Hy.out]; omega
                    · rw [if_neg ez]
                      by_cases ez2 : z < q + 1
                      · rw [if_pos ez2]; exact Hrng.out z hz
                      · rw [if_neg ez2]; exact Hpos.out z hz
                  refine ⟨?_, HK5.out.same (hkx.block tb (by simpa using n1)), (HR6.out.same rfl).congr (fun z hz => by rw [Hx.out]), hrng, by rw [Hst.out, Hval.out], HS5.out.same (hkx.block sb (by simp; exact fun e => n3 e.symm)), HB5.out.trans (hkx.below (by simp; omega))⟩
                  have hv := Wd.val_lt j hrng
                  rw [Hst.out, Hval.out, ← Hcnt.out] at hv
                  exact hv
                · go_wp2_with fail
                  go_quiet (fail)
                  go_wp2_with fail
                  have hkx : Keeps [ab] w5 (((wr.setCell ⟨ab, q, none⟩ (.int .i64 ((x : Int) + 1))).drewN nq).setCell ⟨ab, q, none⟩ (.int .i64 0)) := by
                    have h := HKp.out.setCell (p := ⟨ab, q, none⟩) (by simp) (.int .i64 ((x : Int) + 1))
                    have h' : Keeps [ab] w5 ((wr.setCell ⟨ab, q, none⟩ (.int .i64 ((x : Int) + 1))).drewN nq) := ⟨h.os, h.tape, h.output, h.size, h.block⟩
                    exact h'.setCell (by simp) _
                  have hrw : RowT (((wr.setCell ⟨ab, q, none⟩ (.int .i64 ((x : Int) + 1))).drewN nq).setCell ⟨ab, q, none⟩ (.int .i64 0)) ab j (fun z => if z < q then d z else 0) :=
                    (RowT.set (HR6.out.same (w' := (wr.setCell ⟨ab, q, none⟩ (.int .i64 ((x : Int) + 1))).drewN nq) rfl) q 0).congr (fun z hz => by
                      by_cases ez : z = q
                      · rw [if_pos ez, if_neg (by omega)]
                      · rw [if_neg ez]
                        show (if z = q then x + 1 else if z < q + 1 then d z else 0) = _
                        rw [if_neg ez]
                        have : z < q + 1 ↔ z < q := by omega
                        simp only [this])
                  exact ⟨⟨q, by omega, rfl, hrw, hideS (Hdq.out (by rw [← Hx.out, ← Hy.out]; omega)), hkx⟩, by simp [intOf]⟩

theorem keys_calls (l : Nat → Nat) (n cg : Nat) (ag : Option Addr) (w : World) (hR : LSd w.heap.size w ag n l) (hn : 1 ≤ n) (hn2 : n ≤ 65536) (hlen : ∀ i, i < n → l i ≤ 32768) (hp : Wd.pr l 0 n ≤ 65536)
    (hT : Lib.TabBelow Tryd.prog w.heap.size w tabName .u64 Lib.pow10Tab) : Calls Tryd.prog 15 #[.slice ag n cg] w (KPost w (Wd.pr l 0 n)) := by
  by_cases h1 : n = 1
  · subst h1
    exact keys_one l cg ag w hR
  · by_cases h2 : ∃ z, z < n ∧ l z = 0
    · obtain ⟨z, hz, hlz⟩ := h2
      have h0 : Wd.pr l 0 n = 0 := Wd.pr_zero (i := z) (by rw [Nat.zero_add]; exact hlz) hz
      rw [h0]
      exact keys_zero l n cg ag w hR (by omega) hn2 hlen z hz hlz
    · refine keys_pos l n cg ag w hR (by omega) hn2 hlen (fun i hi => ?_) hp hT
      rcases Nat.eq_zero_or_pos (l i) with h | h
      · exact absurd ⟨i, hi, h⟩ h2
      · exact h

theorem keys8_calls (l : Nat → Nat) (n cg : Nat) (ag : Option Addr) (w : World) (hR : LSd w.heap.size w ag n l) (hn : 1 ≤ n) (hn2 : n ≤ 65536) (hlen : ∀ i, i < n → l i ≤ 32768) (hp : Wd.pr l 0 n ≤ 65536)
    (hT : Lib.TabBelow Tryd.prog w.heap.size w tabName .u64 Lib.pow10Tab) : Calls Tryd.prog 8 #[.slice ag n cg] w (KPost w (Wd.pr l 0 n)) := by
  have HC := hideS (keys_calls l n cg ag w hR hn hn2 hlen hp hT)
  clear hR hlen hp hT
  generalize Wd.pr l 0 n = p at *
  go_enter Tryd.func8, Tryd.ntmps8
  go_wp2_with fail
  refine HC.out.mono ?_
  rintro e w' ⟨⟨a, c, rfl⟩, hb⟩
  have Hb := hideS hb
  clear hb
  go_wp2
  go_ret
  exact ⟨⟨a, c, rfl⟩, Hb.out⟩

end Go.Proofs.Qxb6603132aDoor
