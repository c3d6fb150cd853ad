/-
  (*firstDeliveries).of and (*History).firstDeliveries: their walks.
-/
import Derived.Test.Qxb6601966aDpMem
import Derived.Deep.QuietTactic
import Derived.BigQuiet
import Derived.Deep.DeepCutAuto
import Derived.WalkLawsBesides
namespace Go.Proofs.Qxb6601966a
open Go Go.RowKit

/-- Behind t steps of clearing. -/
def clr (L : List Int) (t : Nat) (x : Nat) : Int := if (x : Int) ∈ L.take t then -1 else Dp.fst L x
/-- Behind t steps of filling. -/
def fil (L : List Int) (t : Nat) (x : Nat) : Int := if (x : Int) ∈ L.take t then (L.idxOf (x : Int) : Int) else -1

theorem clr_end (L : List Int) {t : Nat} (h : L.length ≤ t) (x : Nat) : clr L t x = -1 := by
  unfold clr
  rw [List.take_of_length_le h]
  by_cases hx : (x : Int) ∈ L
  · rw [if_pos hx]
  · rw [if_neg hx, Dp.fst_not hx]
theorem clr_step (L : List Int) {t y : Nat} (h : t < L.length) (hy : L.getD t 0 = (y : Int)) (x : Nat) : (if x = y then -1 else clr L t x) = clr L (t + 1) x := by
  unfold clr
  have hm := Dp.mem_take_succ h (x : Int)
  rw [hy] at hm
  by_cases e : x = y
  · rw [if_pos e, if_pos (hm.2 (.inr (by rw [e])))]
  · rw [if_neg e]
    have e' : ¬ (x : Int) = (y : Int) := by omega
    by_cases hx : (x : Int) ∈ L.take t
    · rw [if_pos hx, if_pos (hm.2 (.inl hx))]
    · rw [if_neg hx, if_neg (fun h => (hm.1 h).elim hx e')]
theorem fil_zero (L : List Int) (x : Nat) : fil L 0 x = -1 := by simp [fil]
theorem fil_end (L : List Int) {t : Nat} (h : L.length ≤ t) (x : Nat) : fil L t x = Dp.fst L x := by
  unfold fil Dp.fst
  rw [List.take_of_length_le h]
theorem fil_old (L : List Int) {t y : Nat} (h : t < L.length) (hy : L.getD t 0 = (y : Int)) (hm : (y : Int) ∈ L.take t) (x : Nat) : fil L t x = fil L (t + 1) x := by
  unfold fil
  have hs := Dp.mem_take_succ h (x : Int)
  rw [hy] at hs
  by_cases hx : (x : Int) ∈ L.take t
  · rw [if_pos hx, if_pos (hs.2 (.inl hx))]
  · rw [if_neg hx, if_neg (fun h => (hs.1 h).elim hx (fun e => hx (by rw [e]; exact hm)))]
theorem fil_new (L : List Int) {t y : Nat} (h : t < L.length) (hy : L.getD t 0 = (y : Int)) (hm : (y : Int) ∉ L.take t) (x : Nat) : (if x = y then (t : Int) else fil L t x) = fil L (t + 1) x := by
  unfold fil
  have hs := Dp.mem_take_succ h (x : Int)
  rw [hy] at hs
  have hi := Dp.first_iff h
  rw [hy] at hi
  by_cases e : x = y
  · rw [if_pos e, if_pos (hs.2 (.inr (by rw [e]))), e, hi.2 hm]
  · rw [if_neg e]
    have e' : ¬ (x : Int) = (y : Int) := by omega
    by_cases hx : (x : Int) ∈ L.take t
    · rw [if_pos hx, if_pos (hs.2 (.inl hx))]
    · rw [if_neg hx, if_neg (fun h => (hs.1 h).elim hx e')]
theorem fil_at (L : List Int) {t y : Nat} (hm : (y : Int) ∈ L.take t) : 0 ≤ fil L t y := by
  unfold fil; rw [if_pos hm]; omega
theorem fil_no (L : List Int) {t y : Nat} (hm : (y : Int) ∉ L.take t) : fil L t y = -1 := by
  unfold fil; rw [if_neg hm]

/-- An entry of a log is the number of a message. -/
theorem InR.at {n : Nat} {L : List Int} (h : InR n L) {t : Nat} (ht : t < L.length) : ∃ y : Nat, L.getD t 0 = (y : Int) ∧ y < n := by
  obtain ⟨h1, h2⟩ := h _ (Dp.getD_mem ht)
  exact ⟨(L.getD t 0).toNat, by omega, by omega⟩

set_option maxRecDepth 100000 in
set_option maxHeartbeats 2000000 in
theorem of_calls (B hb fb ab n cd : Nat) (ad : Option Addr) (dl : List Inn) (mem : Int) (L0 : List Int) (m : Nat) (w : World) (hd : DRd B w ad dl) (c6 : w.cell? ⟨hb, 6, none⟩ = some (.slice ad dl.length cd)) (hhb : hb < B) (hab : B ≤ ab) (hfb : B ≤ fb) (hne : fb ≠ ab)
    (hF : FD w fb hb ab n mem) (hA : RowAt w ab n (fun x => Dp.fst L0 x)) (hL0 : (mem = -1 ∧ L0 = []) ∨ ∃ k : Nat, mem = (k : Int) ∧ k < dl.length ∧ L0 = (dl.getD k d0).zs ∧ InR n L0)
    (hm : m < dl.length) (hLm : InR n (dl.getD m d0).zs) (hlen : ∀ k, (dl.getD k d0).zs.length ≤ 2000000) :
    Calls Try.prog 37 #[.pointer (some ⟨fb, 0, none⟩), .int .i64 (m : Int)] w fun e w' => e = .returned (.slice (some ⟨ab, 0, none⟩) n n) ∧ RowAt w' ab n (fun x => Dp.fst (dl.getD m d0).zs x) ∧ FD w' fb hb ab n m ∧ Keeps [ab, fb] w w' := by
  obtain ⟨f0, f1, f2, z1⟩ := hF
  have HF := hide3 (FD.mk f0 f1 f2 z1)
  have hbS : hb ∉ [ab, fb] := by simp; omega
  have HD := hide3 hd
  have HLm := hide3 hLm
  have HA := hide3 hA
  have HL0 := hide3 hL0
  have Hlen := hide3 hlen
  obtain ⟨L, hL⟩ : ∃ L, L = (dl.getD m d0).zs := ⟨_, rfl⟩
  rw [← hL] at HLm ⊢
  have HL := hide3 hL
  clear hd hLm hA hL0 hlen hL
  go_enter Try.func37, Try.ntmps37
  go_upto_if 13 with fail
  go_cut [6] (fun _ wc => RowAt wc ab n (fun _ => -1) ∧ Keeps [ab, fb] w wc ∧ FD wc fb hb ab n mem)
  case first =>
    rcases HL0.out with ⟨rfl, rfl⟩ | ⟨k, rfl, hk, hLk, hin⟩
    · go_wp2
      go_meet
      exact ⟨HA.out.congr (fun x _ => by simp [Dp.fst]), Keeps.refl _ _, HF.out⟩
    · obtain ⟨b, off, ra, hbB, hc, hR⟩ := HD.out.at hk
      subst ra
      have hlk := Hlen.out k
      rw [← hLk] at hc hR hlk
      generalize (dl.getD k d0).a = ak at *
      generalize (dl.getD k d0).c = ck at *
      have HR := hide3 hR
      have Hin := hide3 hin
      clear hR hin hLk
      have hk' : (k : Int) < (dl.length : Int) := by omega
      go_wp2_with fail
      go_quiet (fail)
      go_wp2_with fail
      go_loopw [28] (fun i wr => ∃ t : Nat, t ≤ L0.length ∧ i = .int .i64 t ∧ RowAt wr ab n (clr L0 t) ∧ Keeps [ab, fb] w wr ∧ FD wr fb hb ab n (k : Int)) (fun i _ => L0.length - (intOf i).toNat)
      case atStart => exact ⟨0, Nat.zero_le _, rfl, HA.out.congr (fun x _ => by simp [clr]), (Keeps.refl _ _).drewN _, HF.out.drewN _⟩
      case round =>
        clear f0 f1 f2 z1 c6 hc
        obtain ⟨t, ht, rfl, hA, hK, hF⟩ := hrel
        obtain ⟨f0, f1, f2, z1⟩ := hF
        have HF2 := hide3 (FD.mk f0 f1 f2 z1)
        have hbl := hK.below (B := B) (by simp; omega)
        by_cases hlt : t < L0.length
        · obtain ⟨b1, o1, ra1, hb1, hc1⟩ := (HR.out.below hbl).at hlt
          subst ra1
          obtain ⟨y, hy, hyn⟩ := Hin.out.at hlt
          rw [hy] at hc1
          obtain ⟨hy1, hy2⟩ := hA y hyn
          have hy3 : (y : Int) < (n : Int) := by omega
          have HA2 := hide3 (hA.set y (-1))
          have HY := hide3 hy
          clear hy hA hbl
          go_wp2
          go_roundw
          case rel => exact ⟨t + 1, by omega, by go_num, HA2.out.congr (fun x _ => clr_step L0 hlt HY.out x), hK.setCell (by simp) _, HF2.out.keeps ((Keeps.refl [ab] _).setCell (by simp) _) (by simpa using hne)⟩
          case measure => simp [intOf]; omega
        · go_wp2
          go_meet
          exact ⟨hA.congr (fun x _ => clr_end L0 (by omega) x), hK, HF2.out⟩
  case rest =>
    clear f0 f1 f2 z1
    obtain ⟨hA, hK, hF⟩ := hcut
    obtain ⟨f0, f1, f2, z1⟩ := hF
    have HF2 := hide3 (FD.mk f0 f1 f2 z1)
    have hbl := hK.below (B := B) (by simp; omega)
    obtain ⟨b, off, ra, hbB, hc, hR⟩ := (HD.out.below hbl).at hm
    subst ra
    have c6' : wc.cell? ⟨hb, 6, none⟩ = some (.slice (some ⟨b, off, none⟩) dl.length cd) := (hK.cell (p := ⟨hb, 6, none⟩) hbS).trans c6
    have hlm := Hlen.out m
    rw [← HL.out] at hc hR hlm
    generalize (dl.getD m d0).a = am at *
    generalize (dl.getD m d0).c = cm at *
    have HR := hide3 hR
    have hKc := hide3 (fun (wr : World) (hk : Keeps [ab, fb] w wr) => (⟨hk.os.trans hK.os.symm, hk.tape.trans hK.tape.symm, hk.output.trans hK.output.symm, Nat.le_of_eq (hK.size.trans hk.size.symm), fun k hkB => (hk.block k (by simp; omega)).trans (hK.block k (by simp; omega)).symm⟩ : Below B wc wr))
    clear hR c6 HL0 HA
    have hm' : (m : Int) < (dl.length : Int) := by omega
    go_wp2_with fail
    go_loopw [50] (fun i wr => ∃ t : Nat, t ≤ L.length ∧ i = .int .i64 t ∧ RowAt wr ab n (fil L t) ∧ Keeps [ab, fb] w wr ∧ FD wr fb hb ab n mem) (fun i _ => L.length - (intOf i).toNat)
    case atStart => exact ⟨0, Nat.zero_le _, rfl, hA.congr (fun x _ => (fil_zero L x).symm), hK, HF2.out⟩
    case round =>
      clear f0 f1 f2 z1 c6' hc hA hK HF2 hbl
      obtain ⟨t, ht, rfl, hA, hK, hF⟩ := hrel
      obtain ⟨f0, f1, f2, z1⟩ := hF
      have HF2 := hide3 (FD.mk f0 f1 f2 z1)
      have hb2 : Below B wc wr := hKc.out wr hK
      by_cases hlt : t < L.length
      · obtain ⟨b1, o1, ra1, hb1, hc1⟩ := (HR.out.below hb2).at hlt
        subst ra1
        obtain ⟨y, hy, hyn⟩ := HLm.out.at hlt
        rw [hy] at hc1
        obtain ⟨hy1, hy2⟩ := hA y hyn
        have hy3 : (y : Int) < (n : Int) := by omega
        have HY := hide3 hy
        by_cases hmy : (y : Int) ∈ L.take t
        · have hge := fil_at L hmy
          have HA2 := hide3 (hA.congr (fun x _ => fil_old L hlt hy hmy x))
          generalize fil L t y = v at *
          clear hy hA hmy
          go_wp2
          go_roundw
          case rel => exact ⟨t + 1, by omega, by go_num, HA2.out, hK, HF2.out⟩
          case measure => simp [intOf]; omega
        · rw [fil_no L hmy] at hy1
          have HA2 := hide3 ((hA.set y (t : Int)).congr (fun x _ => fil_new L hlt hy hmy x))
          clear hy hA hmy
          go_wp2
          go_roundw
          case rel => exact ⟨t + 1, by omega, by go_num, HA2.out, hK.setCell (by simp) _, HF2.out.keeps ((Keeps.refl [ab] _).setCell (by simp) _) (by simpa using hne)⟩
          case measure => simp [intOf]; omega
      · have HA2 := hide3 (hA.congr (fun x _ => fil_end L (t := t) (by omega) x))
        have HF3 := hide3 (HF2.out.setMem (m : Int))
        clear hA
        go_wp2
        go_ret
        exact ⟨rfl, HA2.out.keeps ((Keeps.refl [fb] _).setCell (by simp) _) (by simpa using hne.symm), HF3.out, hK.setCell (by simp) _⟩

theorem row_made {w : World} {base g n : Nat} (h : w.ownsRow base 3 1 (.slice (some ⟨g, 0, none⟩) n n) n (madeCells (Value.int .i64 0).cells (n * 1)).toList) : RowAt w g n (fun _ => 0) := by
  intro x hx
  refine ⟨?_, h.frozenAt x⟩
  rw [h.cellAt x (by omega), Nat.mul_one, show (Value.int .i64 0).cells = #[Value.int .i64 0] from rfl, toList_madeCells_one]
  simp [hx]

theorem i3 : (Try.prog.info? 3).map (fun i => (i.zero, i.size, i.bytes)) = some (some (.int .i64 0), 1, 8) := by kernel_rfl

set_option maxHeartbeats 1000000 in
theorem first_calls (hb n c : Nat) (am : Option Addr) (w : World) (c12 : w.cell? ⟨hb, 12, none⟩ = some (.slice am n c)) (hn : n ≤ 1000000) :
    Calls Try.prog 36 #[.pointer (some ⟨hb, 0, none⟩)] w fun e w' => e = .returned (.pointer (some ⟨w.heap.size + 1, 0, none⟩)) ∧ RowAt w' w.heap.size n (fun _ => -1) ∧ FD w' (w.heap.size + 1) hb w.heap.size n (-1) ∧ Below w.heap.size w w' ∧ w'.heap.size = w.heap.size + 2 := by
  obtain ⟨i0, hi, hz0, hz1, hz2⟩ := info_parts i3
  obtain ⟨W1, hmk, hown, hgr⟩ := run_make_full (P := Try.prog) w w.heap.size 22 3 i0 (.int .i64 0) 1 Try.underlying22 hi hz0 hz1 .i64 .i64 n (by rw [hz2]; omega) (by unfold maxLen; omega) (Nat.le_refl _)
  have hR := row_made hown
  have hsz : W1.heap.size = w.heap.size + 1 := by
    have h1 := (hown.lt w.heap.size rfl).2
    have h2 := congrArg (fun r => match r with | .ok _ x => x.heap.size | _ => 0) hmk
    have h3 := run_make (P := Try.prog) w 22 3 i0 (.int .i64 0) Try.underlying22 hi hz0 .i64 .i64 n n (by omega) (Int.le_refl _) (by rw [hz2]; omega) (by omega)
    rw [h3] at h2
    simpa using h2.symm
  have hbl : Below w.heap.size w W1 := (Below.refl _ _).grown hgr (Nat.le_refl _) (fun k e => by cases e)
  clear hown hgr hi hz0 hz1 hz2
  have HSz := hide3 hsz
  clear hsz
  go_enter Try.func36, Try.ntmps36
  go_wp2
  go_loopw [13] (fun i wr => ∃ t : Nat, t ≤ n ∧ i = .int .i64 t ∧ RowAt wr w.heap.size n (fun x => if x < t then -1 else 0) ∧ Below w.heap.size w wr ∧ Hid (wr.heap.size = w.heap.size + 1)) (fun i _ => n - (intOf i).toNat)
  case atStart => exact ⟨0, Nat.zero_le _, rfl, hR.congr (fun x _ => by simp), hbl, HSz⟩
  case round =>
    clear hR hbl HSz hmk
    obtain ⟨t, ht, rfl, hR, hbl, HSz⟩ := hrel
    by_cases hlt : t < n
    · obtain ⟨h1, h2⟩ := hR t hlt
      have HR := hide3 ((hR.set t (-1)).congr (g' := fun x => if x < t + 1 then -1 else 0) (fun x _ => by
        by_cases e : x = t
        · simp [e]
        · have h1 : (x < t + 1) ↔ (x < t) := by omega
          simp [e, h1]))
      clear hR
      go_wp2
      go_roundw
      case rel => exact ⟨t + 1, by omega, by go_num, HR.out, hbl.setCell (Nat.le_refl _) _, hide3 (by rw [World.size_setCell]; exact HSz.out)⟩
      case measure => simp [intOf]; omega
    · have HR := hide3 (hR.congr (g' := fun _ => -1) (fun x hx => by simp [show x < t by omega]))
      clear hR
      go_wp2
      go_ret
      have hs := HSz.out
      refine ⟨by show Ending.returned (.pointer (some ⟨wr.heap.size, 0, none⟩)) = _; rw [hs], ?_, ?_, hbl.alloc (by omega) _, by simp [hs]⟩
      · exact HR.out.below ((Below.refl _ _).alloc (Nat.le_refl _) _) (by omega)
      · have hnew := heap_alloc_new wr (.cells #[.pointer (some ⟨hb, 0, none⟩), .int .i64 (-1), .slice (some ⟨w.heap.size, 0, none⟩) n n] 81)
        rw [hs] at hnew
        exact ⟨by simp [World.cell?, hnew], by simp [World.cell?, hnew], by simp [World.cell?, hnew], by simp [World.frozen?, hnew]⟩

end Go.Proofs.Qxb6601966a
