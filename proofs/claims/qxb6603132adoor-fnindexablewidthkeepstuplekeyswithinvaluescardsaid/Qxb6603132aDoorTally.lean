/-
  zzSatAdd, zzMemberTally.
-/
import Derived.Test.Qxb6603132aDoorClone
import Derived.OwnWalk
namespace Go.Proofs.Qxb6603132aDoor
open Go Go.RowKit

theorem add_calls (a b lim : Nat) (w : World) (ha : a ≤ 100000000000) (hb : b ≤ 100000000000) (hl : lim ≤ 100000000000) :
    Calls Tryd.prog 17 #[.int .i64 (a : Int), .int .i64 (b : Int), .int .i64 (lim : Int)] w fun e w' => e = .returned (.int .i64 ((min (a + b) (lim + 1) : Nat) : Int)) ∧ w' = w := by
  by_cases h0 : (lim : Int) < (a : Int) + (b : Int)
  · go_enter Tryd.func17, Tryd.ntmps17
    go_wp2
    go_ret
    exact ⟨by rw [Nat.min_eq_right (by omega)]; rfl, rfl⟩
  · go_enter Tryd.func17, Tryd.ntmps17
    go_wp2
    go_ret
    exact ⟨by rw [Nat.min_eq_left (by omega)]; rfl, rfl⟩

def TallyPost (t v : Nat) (e : Ending) : Prop := ∃ c : Nat, c ≤ 16777217 ∧ e = .returned (.tuple #[.int .i64 (t : Int), .int .i64 (v : Int), .int .i64 (c : Int)])

set_option maxHeartbeats 2000000 in
theorem tally_calls (l : Nat → Nat) (N k v cg : Nat) (ag : Option Addr) (w : World) (hR : LSd w.heap.size w ag N l) (hok : LOk l N k) (hv1 : 1 ≤ v) (hvk : v ≤ k) :
    Calls Tryd.prog 13 #[.slice ag N cg, .int .i64 (k : Int), .int .i64 (v : Int)] w fun e w' => TallyPost (min (Wd.tu 65536 l N k v N) 65537) (Wd.cu l N k v N) e ∧ w' = w := by
  have HR := hideS hR
  have HOk := hideS hok
  have hN := hok.n
  have hk1 := hok.k1
  have hk := hok.k
  clear hR hok
  go_enter Tryd.func13, Tryd.ntmps13
  go_wp2_with fail
  go_loop [9, 10, 11, 12] (fun y z x j => ∃ q st c : Nat, Hid (st = q * k) ∧ st ≤ N + k ∧ c ≤ 16777217 ∧ j = .int .i64 st ∧ x = .int .i64 c ∧ z = .int .i64 (Wd.cu l N k v q) ∧ y = .int .i64 ((min (Wd.tu 65536 l N k v q) 65537 : Nat) : Int)) (fun _ _ _ j => N + k - (intOf j).toNat)
  case atStart => exact ⟨0, 0, 0, hideS (by simp), Nat.zero_le _, Nat.zero_le _, rfl, rfl, rfl, rfl⟩
  case round =>
    obtain ⟨q, st, c, Hst, hst, hcl, rfl, rfl, rfl, rfl⟩ := hrel
    have hcb := Nat.le_trans (Wd.cu_total (l := l) (N := N) hvk q) HOk.out.tot
    have htb : min (Wd.tu 65536 l N k v q) 65537 ≤ 65537 := Nat.min_le_right _ _
    by_cases hlt : st < N
    · have hltI : (st : Int) < (N : Int) := by omega
      by_cases hw : st + v ≤ N
      · have hwI : ¬ (N : Int) - (st : Int) < (v : Int) := by omega
        have Hcu : Hid (Wd.cu l N k v (q + 1) = Wd.cu l N k v q + Wd.sm l st v) := hideS (by
          unfold Wd.cu
          rw [Wd.Sg, if_pos (by rw [← Hst.out]; exact hw), ← Hst.out])
        have Htu : Hid (min (Wd.tu 65536 l N k v (q + 1)) 65537 = min (min (Wd.tu 65536 l N k v q) 65537 + Wd.sp 65536 l st v) (65536 + 1)) := hideS (by
          unfold Wd.tu
          rw [Wd.Sg, if_pos (by rw [← Hst.out]; exact hw), ← Hst.out]
          omega)
        obtain ⟨c0, hc0⟩ : ∃ c0, c0 = Wd.cu l N k v q := ⟨_, rfl⟩
        obtain ⟨t0, ht0⟩ : ∃ t0, t0 = min (Wd.tu 65536 l N k v q) 65537 := ⟨_, rfl⟩
        rw [← hc0] at hcb Hcu ⊢
        rw [← ht0] at htb Htu ⊢
        clear hc0 ht0
        go_wp2_with fail
        go_loop [10, 13, 14, 15] (fun z p y j => ∃ i wd : Nat, i ≤ v ∧ wd ≤ i * 1048600 ∧ j = .int .i64 ((st : Int) + (i : Int)) ∧ z = .int .i64 ((c0 + Wd.sm l st i : Nat) : Int) ∧ p = .int .i64 ((Wd.sp 65536 l st i : Nat) : Int) ∧ y = .int .i64 (wd : Int)) (fun _ _ _ j => st + v - (intOf j).toNat)
        case atStart => exact ⟨0, 0, Nat.zero_le _, Nat.zero_le _, by simp, by simp [Wd.sm], rfl, rfl⟩
        case round =>
          obtain ⟨i, wd, hi, hwd, rfl, rfl, rfl, rfl⟩ := hrel
          have hpb := Wd.sp_le 65536 l st i
          by_cases hlti : i < v
          · obtain ⟨b, off, ra, hb, a, ca, hc, hstr⟩ := HR.out.at (i := st + i) (by omega)
            subst ra
            have hll := HOk.out.len (i := st + i) (by omega)
            have hsb := Nat.le_trans (Wd.sm_within (l := l) (N := N) (st := st) (i := i) (by omega)) HOk.out.tot
            have Hs1 : Hid (Wd.sm l st (i + 1) = Wd.sm l st i + l (st + i)) := hideS rfl
            have Hp1 : Hid (Wd.sp 65536 l st (i + 1) = min (Wd.sp 65536 l st i * l (st + i)) (65536 + 1)) := hideS rfl
            have Hstr := hideS hstr
            clear hstr
            generalize Wd.sm l st i = s0 at *
            generalize Wd.sp 65536 l st i = p0 at *
            generalize l (st + i) = x at *
            have hI1 : (st : Int) + (i : Int) < (st : Int) + (v : Int) := by omega
            have hI2 : (st : Int) + (i : Int) < (N : Int) := by omega
            go_wp2_with fail
            refine (sat_calls p0 x 65536 _ (by omega) (by omega) (by omega)).mono ?_
            rintro e w4 ⟨rfl, rfl⟩
            rw [← Hp1.out]
            have hpb2 := Wd.sp_le 65536 l st (i + 1)
            obtain ⟨p1, hp1⟩ : ∃ p1, p1 = Wd.sp 65536 l st (i + 1) := ⟨_, rfl⟩
            rw [← hp1] at hpb2 ⊢
            have HP1 := hideS hp1
            clear hp1 Hp1
            go_wp2_with fail
            go_loop [16, 59] (fun z j => ∃ y lg : Nat, y ≤ x ∧ lg ≤ 1048576 ∧ j = .int .i64 y ∧ z = .int .i64 lg) (fun _ j => x - (intOf j).toNat)
            case atStart => exact ⟨0, 0, Nat.zero_le _, Nat.zero_le _, rfl, rfl⟩
            case round =>
              obtain ⟨y, lg, hy, hlg, rfl, rfl⟩ := hrel
              by_cases hlty : y < x
              · obtain ⟨b1, o1, s, ra, hb1, hc1, hs⟩ := Hstr.out y hlty
                subst ra
                have hyI : (y : Int) < (x : Int) := by omega
                by_cases hgt : (lg : Int) < (s.size : Int)
                · go_wp2
                  go_round
                  case rel => exact ⟨y + 1, s.size, by omega, by omega, by go_num, rfl⟩
                  case measure => simp [intOf]; omega
                · go_wp2
                  go_round
                  case rel => exact ⟨y + 1, lg, by omega, by omega, by go_num, rfl⟩
                  case measure => simp [intOf]; omega
              · have hyI : ¬ (y : Int) < (x : Int) := by omega
                go_wp2
                go_round
                case rel => exact ⟨i + 1, wd + (lg + 21), by omega, by omega, by go_num, by rw [Hs1.out]; go_num, by rw [← HP1.out], by go_num⟩
                case measure => simp [intOf]; omega
          · obtain rfl : i = v := by omega
            have hsb := Nat.le_trans (Wd.sm_within (l := l) (N := N) (st := st) (i := i) (by omega)) HOk.out.tot
            generalize Wd.sm l st i = s0 at *
            generalize Wd.sp 65536 l st i = p0 at *
            have hI1 : ¬ (st : Int) + (i : Int) < (st : Int) + (i : Int) := by omega
            go_wp2_with fail
            refine (add_calls t0 p0 65536 _ (by omega) (by omega) (by omega)).mono ?_
            rintro e w4 ⟨rfl, rfl⟩
            rw [← Htu.out]
            go_wp2_with fail
            refine (sat_calls p0 wd 16777216 _ (by omega) (by omega) (by omega)).mono ?_
            rintro e w4 ⟨rfl, rfl⟩
            have hm1 := Nat.min_le_right (p0 * wd) (16777216 + 1)
            generalize min (p0 * wd) (16777216 + 1) = mm at *
            go_wp2_with fail
            refine (add_calls c mm 16777216 _ (by omega) (by omega) (by omega)).mono ?_
            rintro e w4 ⟨rfl, rfl⟩
            have hm2 := Nat.min_le_right (c + mm) (16777216 + 1)
            generalize min (c + mm) (16777216 + 1) = mn at *
            obtain ⟨t1, ht1⟩ : ∃ t1, t1 = min (Wd.tu 65536 l N k i (q + 1)) 65537 := ⟨_, rfl⟩
            rw [← ht1]
            have Ht1 := hideS ht1
            clear ht1
            go_wp2
            go_round
            case rel => exact ⟨q + 1, st + k, mn, hideS (by rw [Nat.succ_mul, ← Hst.out]), by omega, by omega, by go_num, rfl, by rw [Hcu.out]; first | rfl | go_num, by rw [← Ht1.out]⟩
            case measure => simp [intOf]; omega
      · have hwI : (N : Int) - (st : Int) < (v : Int) := by omega
        have He : Hid (Wd.cu l N k v (q + 1) = Wd.cu l N k v q) := hideS (by
          unfold Wd.cu
          rw [Wd.Sg, if_neg (by rw [← Hst.out]; exact hw)]
          rfl)
        have Ht : Hid (min (Wd.tu 65536 l N k v (q + 1)) 65537 = min (Wd.tu 65536 l N k v q) 65537) := hideS (by
          unfold Wd.tu
          rw [Wd.Sg, if_neg (by rw [← Hst.out]; exact hw)]
          rfl)
        obtain ⟨c0, hc0⟩ : ∃ c0, c0 = Wd.cu l N k v q := ⟨_, rfl⟩
        obtain ⟨t0, ht0⟩ : ∃ t0, t0 = min (Wd.tu 65536 l N k v q) 65537 := ⟨_, rfl⟩
        rw [← hc0] at hcb He ⊢
        rw [← ht0] at htb Ht ⊢
        clear hc0 ht0
        go_wp2
        go_round
        case rel => exact ⟨q + 1, st + k, c, hideS (by rw [Nat.succ_mul, ← Hst.out]), by omega, by omega, by go_num, rfl, by rw [He.out], by rw [Ht.out]⟩
        case measure => simp [intOf]; omega
    · have hltI : ¬ (st : Int) < (N : Int) := by omega
      have hr : N ≤ q * k := by rw [← Hst.out]; omega
      rw [Wd.cu_end hk1 (by omega) hr] at hcb ⊢
      rw [Wd.tu_end hk1 (by omega) hr] at htb ⊢
      obtain ⟨c0, hc0⟩ : ∃ c0, c0 = Wd.cu l N k v N := ⟨_, rfl⟩
      obtain ⟨t0, ht0⟩ : ∃ t0, t0 = min (Wd.tu 65536 l N k v N) 65537 := ⟨_, rfl⟩
      rw [← hc0] at hcb ⊢
      rw [← ht0] at htb ⊢
      have Hc0 := hideS hc0
      have Ht0 := hideS ht0
      clear hc0 ht0 hr
      go_wp2
      go_ret3
      exact ⟨⟨c, hcl, by rw [← Hc0.out, ← Ht0.out]; rfl⟩, rfl⟩

end Go.Proofs.Qxb6603132aDoor
