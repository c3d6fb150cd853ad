/-
  zzWidthHolds.
-/
import Derived.Test.Qxb6603132aSat
namespace Go.Proofs.Qxb6603132a
open Go Go.RowKit

namespace Wd
theorem Sg_tail {f : Nat → Nat} {r s : Nat} (h : r ≤ s) (hz : ∀ q, r ≤ q → q < s → f q = 0) : Sg f r = Sg f s := by
  induction s with
  | zero => rw [show r = 0 by omega]
  | succ s ih =>
    by_cases e : r = s + 1
    · rw [e]
    · rw [Sg, ← ih (by omega) (fun q h1 h2 => hz q h1 (by omega)), hz s (by omega) (by omega)]
      rfl
theorem Sg_same {f : Nat → Nat} {r s : Nat} (h1 : ∀ q, r ≤ q → f q = 0) (h2 : ∀ q, s ≤ q → f q = 0) : Sg f r = Sg f s := by
  rcases Nat.le_total r s with h | h
  · exact Sg_tail h (fun q hq _ => h1 q hq)
  · exact (Sg_tail h (fun q hq _ => h2 q hq)).symm
theorem past {N k w r q : Nat} (hr : N ≤ r * k) (hw : 0 < w) (hq : r ≤ q) : ¬ q * k + w ≤ N := by
  have := Nat.mul_le_mul_right k hq
  omega
theorem cu_end {l : Nat → Nat} {N k w r : Nat} (hk : 1 ≤ k) (hw : 0 < w) (hr : N ≤ r * k) : cu l N k w r = cu l N k w N :=
  Sg_same (fun _ hq => if_neg (past hr hw hq)) (fun _ hq => if_neg (past (Nat.le_mul_of_pos_right N hk) hw hq))
theorem tu_end {L : Nat} {l : Nat → Nat} {N k w r : Nat} (hk : 1 ≤ k) (hw : 0 < w) (hr : N ≤ r * k) : tu L l N k w r = tu L l N k w N :=
  Sg_same (fun _ hq => if_neg (past hr hw hq)) (fun _ hq => if_neg (past (Nat.le_mul_of_pos_right N hk) hw hq))
/-- zzWidthHolds. -/
def wh (l : Nat → Nat) (N k w : Nat) : Bool := decide (tu (cu l N k w N) l N k w N ≤ cu l N k w N)
theorem wh_yes {l : Nat → Nat} {N k w r V : Nat} (hk : 1 ≤ k) (hw : 0 < w) (hr : N ≤ r * k) (hV : V = cu l N k w N) (h : tu V l N k w r ≤ V) : wh l N k w = true := by
  unfold wh
  rw [← hV, ← tu_end hk hw hr]
  exact decide_eq_true h
theorem wh_no {l : Nat → Nat} {N k w r V : Nat} (hr : r ≤ N) (hV : V = cu l N k w N) (h : ¬ tu V l N k w r ≤ V) : wh l N k w = false := by
  unfold wh
  rw [← hV]
  refine decide_eq_false (fun h' => h (Nat.le_trans (Sg_mono hr) h'))
theorem sm_within {l : Nat → Nat} {N st i : Nat} (h : st + i ≤ N) : sm l st i ≤ sm l 0 N := by
  have h1 := sm_add l st i
  have h2 := sm_mono l 0 h
  omega
end Wd

/-- A slice of slices, told by their lengths. -/
def LRd (B : Nat) (w : World) (ag : Option Addr) (N : Nat) (l : Nat → Nat) : Prop :=
  0 < N → ∃ b off, ag = some ⟨b, off, none⟩ ∧ b < B ∧ ∀ i, i < N → ∃ a c, w.cell? ⟨b, off + i, none⟩ = some (.slice a (l i) c)
theorem LRd.at {B : Nat} {w : World} {ag : Option Addr} {N i : Nat} {l : Nat → Nat} (h : LRd B w ag N l) (hi : i < N) : ∃ b off, ag = some ⟨b, off, none⟩ ∧ b < B ∧ ∃ a c, w.cell? ⟨b, off + i, none⟩ = some (.slice a (l i) c) := by
  obtain ⟨b, off, e, hb, hc⟩ := h (by omega)
  exact ⟨b, off, e, hb, hc i hi⟩
theorem LRd.below {B : Nat} {w w' : World} {ag : Option Addr} {N : Nat} {l : Nat → Nat} (h : LRd B w ag N l) (hb : Below B w w') : LRd B w' ag N l := by
  intro hp
  obtain ⟨b, off, e, hlt, hc⟩ := h hp
  refine ⟨b, off, e, hlt, fun i hi => ?_⟩
  obtain ⟨a, c, h1⟩ := hc i hi
  exact ⟨a, c, (hb.cell (by exact hlt)).trans h1⟩
theorem LRd.mono {B B' : Nat} {w : World} {ag : Option Addr} {N : Nat} {l : Nat → Nat} (h : LRd B w ag N l) (hb : B ≤ B') : LRd B' w ag N l := by
  intro hp
  obtain ⟨b, off, e, hlt, hc⟩ := h hp
  exact ⟨b, off, e, by omega, hc⟩

/-- What is known of the lengths. -/
structure LOk (l : Nat → Nat) (N k : Nat) : Prop where
  n : N ≤ 65536
  k1 : 1 ≤ k
  k : k ≤ 65536
  tot : Wd.sm l 0 N ≤ 32768

theorem LOk.len {l : Nat → Nat} {N k i : Nat} (h : LOk l N k) (hi : i < N) : l i ≤ 32768 := by
  have h1 := Wd.sm_within (l := l) (N := N) (st := i) (i := 1) (by omega)
  have h2 := h.tot
  simp only [Wd.sm, Nat.add_zero, Nat.zero_add] at h1
  omega

set_option maxHeartbeats 1000000 in
theorem holds_calls (l : Nat → Nat) (N k v cg : Nat) (ag : Option Addr) (w : World) (hR : LRd w.heap.size w ag N l) (hok : LOk l N k) (hv1 : 1 ≤ v) (hvk : v ≤ k) :
    Calls Try.prog 9 #[.slice ag N cg, .int .i64 (k : Int), .int .i64 (v : Int)] w fun e w' => e = .returned (.bool (Wd.wh l N k v)) ∧ w' = w := by
  have HR := hideS hR
  have HOk := hideS hok
  have hN := hok.n
  have hk1 := hok.k1
  have hk := hok.k
  clear hR hok
  go_enter Try.func9, Try.ntmps9
  go_wp2_with fail
  go_loop [7, 8] (fun z j => ∃ q st : Nat, Hid (st = q * k) ∧ st ≤ N + k ∧ j = .int .i64 st ∧ z = .int .i64 (Wd.cu l N k v q)) (fun _ j => N + k - (intOf j).toNat)
  case atStart => exact ⟨0, 0, hideS (by simp), Nat.zero_le _, rfl, rfl⟩
  case round =>
    obtain ⟨q, st, Hst, hst, rfl, rfl⟩ := hrel
    have hcb := Nat.le_trans (Wd.cu_total (l := l) (N := N) hvk q) HOk.out.tot
    by_cases hlt : st < N
    · have hltI : (st : Int) < (N : Int) := by omega
      by_cases hw : st + v ≤ N
      · have hwI : ¬ (N : Int) - (st : Int) < (v : Int) := by omega
        obtain ⟨c0, hc0⟩ : ∃ c0, c0 = Wd.cu l N k v q := ⟨_, rfl⟩
        rw [← hc0] at hcb ⊢
        have Hc0 := hideS hc0
        clear hc0
        go_wp2_with fail
        go_loop [7, 9] (fun z j => ∃ i : Nat, i ≤ v ∧ j = .int .i64 ((st : Int) + (i : Int)) ∧ z = .int .i64 ((c0 + Wd.sm l st i : Nat) : Int)) (fun _ j => st + v - (intOf j).toNat)
        case atStart => exact ⟨0, Nat.zero_le _, by simp, by simp [Wd.sm]⟩
        case round =>
          obtain ⟨i, hi, rfl, rfl⟩ := hrel
          by_cases hlti : i < v
          · obtain ⟨b, off, ra, hb, a, c, hc⟩ := HR.out.at (i := st + i) (by omega)
            subst ra
            have hll := HOk.out.len (i := st + i) (by omega)
            have hsb := Nat.le_trans (Wd.sm_within (l := l) (N := N) (st := st) (i := i) (by omega)) HOk.out.tot
            have hs1 : Wd.sm l st (i + 1) = Wd.sm l st i + l (st + i) := rfl
            have Hs1 := hideS hs1
            clear hs1
            generalize Wd.sm l st i = s0 at *
            generalize l (st + i) = x at *
            have hI1 : (st : Int) + (i : Int) < (st : Int) + (v : Int) := by omega
            have hI2 : (st : Int) + (i : Int) < (N : Int) := by omega
            go_wp2
            go_round
            case rel => exact ⟨i + 1, by omega, by go_num, by rw [Hs1.out]; go_num⟩
            case measure => simp [intOf]; omega
          · obtain rfl : i = v := by omega
            have he : Wd.cu l N k i (q + 1) = c0 + Wd.sm l st i := by
              rw [Hc0.out]
              unfold Wd.cu
              rw [Wd.Sg, if_pos (by rw [← Hst.out]; exact hw), ← Hst.out]
            have He := hideS he
            have hsb := Nat.le_trans (Wd.sm_within (l := l) (N := N) (st := st) (i := i) (by omega)) HOk.out.tot
            clear he
            generalize Wd.sm l st i = s0 at *
            go_wp2
            go_round
            case rel => exact ⟨q + 1, st + k, hideS (by rw [Nat.succ_mul, ← Hst.out]), by omega, by go_num, by rw [He.out]⟩
            case measure => simp [intOf]; omega
      · have hwI : (N : Int) - (st : Int) < (v : Int) := by omega
        have he : Wd.cu l N k v (q + 1) = Wd.cu l N k v q := by
          unfold Wd.cu
          rw [Wd.Sg, if_neg (by rw [← Hst.out]; exact hw)]
          rfl
        have He := hideS he
        clear he
        generalize Wd.cu l N k v q = c0 at *
        go_wp2
        go_round
        case rel => exact ⟨q + 1, st + k, hideS (by rw [Nat.succ_mul, ← Hst.out]), by omega, by go_num, by rw [He.out]⟩
        case measure => simp [intOf]; omega
    · have hV : Wd.cu l N k v q = Wd.cu l N k v N := Wd.cu_end hk1 (by omega) (by rw [← Hst.out]; omega)
      obtain ⟨V, hV'⟩ : ∃ V, V = Wd.cu l N k v N := ⟨_, rfl⟩
      rw [hV, ← hV'] at hcb
      rw [hV, ← hV']
      have HV := hideS hV'
      have hltI : ¬ (st : Int) < (N : Int) := by omega
      clear hV hV' Hst hst
      go_wp2_with fail
      go_loop [10, 11] (fun z j => ∃ q st : Nat, Hid (st = q * k) ∧ st ≤ N + k ∧ Hid (Wd.tu V l N k v q ≤ V) ∧ j = .int .i64 st ∧ z = .int .i64 (Wd.tu V l N k v q)) (fun _ j => N + k - (intOf j).toNat)
      case atStart => exact ⟨0, 0, hideS (by simp), Nat.zero_le _, hideS (Nat.zero_le _), rfl, rfl⟩
      case round =>
        obtain ⟨q, st, Hst, hst, Htu, rfl, rfl⟩ := hrel
        by_cases hlt : st < N
        · have hltI : (st : Int) < (N : Int) := by omega
          by_cases hw : st + v ≤ N
          · have hwI : ¬ (N : Int) - (st : Int) < (v : Int) := by omega
            have he : Wd.tu V l N k v (q + 1) = Wd.tu V l N k v q + Wd.sp V l st v := by
              unfold Wd.tu
              rw [Wd.Sg, if_pos (by rw [← Hst.out]; exact hw), ← Hst.out]
            have He := hideS he
            obtain ⟨t0, ht0⟩ : ∃ t0, t0 = Wd.tu V l N k v q := ⟨_, rfl⟩
            rw [← ht0] at He Htu ⊢
            have htb := Htu.out
            clear he ht0
            go_wp2_with fail
            go_loop [12, 13] (fun z j => ∃ (i : Nat) (b : Bool), i ≤ v ∧ j = .int .i64 ((st : Int) + (i : Int)) ∧ z = .bool b ∧ Hid (b = true ↔ ∃ x, x < i ∧ l (st + x) = 0)) (fun _ j => st + v - (intOf j).toNat)
            case atStart => exact ⟨0, false, Nat.zero_le _, by simp, rfl, hideS (by simp)⟩
            case round =>
              obtain ⟨i, b, hi, rfl, rfl, Hb⟩ := hrel
              by_cases hlti : i < v
              · obtain ⟨b1, off, ra, hb1, a, c, hc⟩ := HR.out.at (i := st + i) (by omega)
                subst ra
                have hll := HOk.out.len (i := st + i) (by omega)
                have hI1 : (st : Int) + (i : Int) < (st : Int) + (v : Int) := by omega
                have hI2 : (st : Int) + (i : Int) < (N : Int) := by omega
                by_cases hz : l (st + i) = 0
                · rw [hz] at hc
                  go_wp2
                  go_round
                  case rel => exact ⟨i + 1, true, by omega, by go_num, rfl, hideS ⟨fun _ => ⟨i, by omega, hz⟩, fun _ => rfl⟩⟩
                  case measure => simp [intOf]; omega
                · have Hb2 : Hid (b = true ↔ ∃ x, x < i + 1 ∧ l (st + x) = 0) := hideS (by
                    rw [Hb.out]
                    constructor
                    · rintro ⟨x, hx, h⟩
                      exact ⟨x, by omega, h⟩
                    · rintro ⟨x, hx, h⟩
                      by_cases e : x = i
                      · rw [e] at h; exact absurd h hz
                      · exact ⟨x, by omega, h⟩)
                  have hzI : ((l (st + i) : Int) == 0) = false := by rw [beq_eq_false_iff_ne]; omega
                  clear Hb
                  generalize l (st + i) = x at *
                  go_wp2
                  go_round
                  case rel => exact ⟨i + 1, b, by omega, by go_num, rfl, Hb2⟩
                  case measure => simp [intOf]; omega
              · obtain rfl : i = v := by omega
                cases b with
                | true =>
                  obtain ⟨x, hx, hz⟩ := Hb.out.1 rfl
                  have hsp : Wd.sp V l st i = 0 := by rw [Wd.sp_eq, Wd.pr_zero hz hx]; simp
                  rw [hsp, Nat.add_zero] at He
                  clear hsp hz Hb
                  go_wp2
                  go_round
                  case rel => exact ⟨q + 1, st + k, hideS (by rw [Nat.succ_mul, ← Hst.out]), by omega, by rw [He.out]; exact Htu, by go_num, by rw [He.out]; rfl⟩
                  case measure => simp [intOf]; omega
                | false =>
                  clear Hb
                  go_wp2_with fail
                  go_loop [14, 15] (fun z j => ∃ m : Nat, m ≤ i ∧ j = .int .i64 ((st : Int) + (m : Int)) ∧ z = .int .i64 ((Wd.sp V l st m : Nat) : Int)) (fun _ j => st + i - (intOf j).toNat)
                  case atStart => exact ⟨0, Nat.zero_le _, by simp, by simp [Wd.sp]⟩
                  case round =>
                    obtain ⟨m, hm, rfl, rfl⟩ := hrel
                    have hpb := Wd.sp_le V l st m
                    by_cases hltm : m < i
                    · obtain ⟨b1, off, ra, hb1, a, c, hc⟩ := HR.out.at (i := st + m) (by omega)
                      subst ra
                      have hll := HOk.out.len (i := st + m) (by omega)
                      have hI1 : (st : Int) + (m : Int) < (st : Int) + (i : Int) := by omega
                      have hI2 : (st : Int) + (m : Int) < (N : Int) := by omega
                      have Hs1 : Hid (Wd.sp V l st (m + 1) = min (Wd.sp V l st m * l (st + m)) (V + 1)) := hideS rfl
                      generalize Wd.sp V l st m = p0 at *
                      generalize l (st + m) = x at *
                      go_wp2_with fail
                      refine (sat_calls p0 x V _ (by omega) (by omega) (by omega)).mono ?_
                      rintro e w4 ⟨rfl, rfl⟩
                      rw [← Hs1.out]
                      go_wp2
                      go_round
                      case rel => exact ⟨m + 1, by omega, by go_num, rfl⟩
                      case measure => simp [intOf]; omega
                    · obtain rfl : m = i := by omega
                      generalize Wd.sp V l st m = p0 at *
                      have hqN : q < N := by
                        have h1 := Nat.le_mul_of_pos_right q hk1
                        have h2 := Hst.out
                        omega
                      by_cases hgt : (t0 : Int) + (p0 : Int) ≤ (V : Int)
                      · go_wp2
                        go_round
                        case rel => exact ⟨q + 1, st + k, hideS (by rw [Nat.succ_mul, ← Hst.out]), by omega, hideS (by rw [He.out]; omega), by go_num, by rw [He.out]; go_num⟩
                        case measure => simp [intOf]; omega
                      · have hno := Wd.wh_no (r := q + 1) (by omega) HV.out (by rw [He.out]; omega)
                        have Hno := hideS hno
                        clear hno
                        go_wp2
                        go_ret
                        exact ⟨by rw [Hno.out]; rfl, rfl⟩
          · have hwI : (N : Int) - (st : Int) < (v : Int) := by omega
            have he : Wd.tu V l N k v (q + 1) = Wd.tu V l N k v q := by
              unfold Wd.tu
              rw [Wd.Sg, if_neg (by rw [← Hst.out]; exact hw)]
              rfl
            have He := hideS he
            clear he
            generalize Wd.tu V l N k v q = c0 at *
            go_wp2
            go_round
            case rel => exact ⟨q + 1, st + k, hideS (by rw [Nat.succ_mul, ← Hst.out]), by omega, by rw [He.out]; exact Htu, by go_num, by rw [He.out]⟩
            case measure => simp [intOf]; omega
        · have hyes := Wd.wh_yes (r := q) hk1 (by omega) (by rw [← Hst.out]; omega) HV.out Htu.out
          have Hyes := hideS hyes
          clear hyes
          generalize Wd.tu V l N k v q = c0 at *
          go_wp2
          go_ret
          exact ⟨by rw [Hyes.out]; rfl, rfl⟩

end Go.Proofs.Qxb6603132a
