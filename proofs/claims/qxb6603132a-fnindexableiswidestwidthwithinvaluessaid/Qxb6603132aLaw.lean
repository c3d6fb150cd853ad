/-
  The law FnIndexableIsWidestWidthWithinValues.
-/
import Derived.Test.Qxb6603132aIndex
namespace Go.Proofs.Qxb6603132a
open Go Go.RowKit Go.Shelf

theorem index8_calls (l : Nat → Nat) (N k cg : Nat) (ag : Option Addr) (w : World) (hR : LRd w.heap.size w ag N l) (hNc : N ≤ cg) (hok : LOk l N k) :
    Calls Try.prog 8 #[.slice ag N cg, .int .i64 (k : Int)] w fun e w' => e = .returned (.int .i64 ((Wd.scan (fun v => decide (Wd.tu (Wd.sm l 0 N) l N k v N ≤ Wd.cu l N k v N)) k : Nat) : Int)) ∧ Below w.heap.size w w' := by
  have HR := hideS hR
  have HOk := hideS hok
  clear hR hok
  go_enter Try.func8, Try.ntmps8
  go_wp2_with fail
  refine (index_calls l N k cg ag _ HR.out hNc HOk.out).mono ?_
  rintro e w' ⟨rfl, hb⟩
  have Hb := hideS hb
  clear hb
  obtain ⟨g, hg⟩ : ∃ g, g = Wd.scan (fun v => decide (Wd.tu (Wd.sm l 0 N) l N k v N ≤ Wd.cu l N k v N)) k := ⟨_, rfl⟩
  rw [← hg]
  have Hg := hideS hg
  clear hg
  go_wp2
  go_ret
  exact ⟨by rw [← Hg.out]; rfl, Hb.out⟩

theorem Wd.two_scans (l : Nat → Nat) (N k : Nat) : Wd.scan (fun v => decide (Wd.tu (Wd.sm l 0 N) l N k v N ≤ Wd.cu l N k v N)) k = Wd.scan (Wd.wh l N k) k :=
  Wd.scan_congr k (fun v hv => by
    unfold Wd.wh
    exact decide_eq_decide.2 (Wd.cut_same (Wd.cu_total hv N) (Nat.le_refl _)))

set_option maxRecDepth 100000 in
set_option maxHeartbeats 2000000 in
theorem law_calls (ad : Option Addr) (N cd : Nat) (dl : List InS) (x : Int) (w : World) (hin : SIn w ad N dl) :
    Calls Try.prog 3 #[.slice ad N cd, .int .i64 x] w fun e w' => e = .returned (.bool true) ∧ Below w.heap.size w w' := by
  have HIn := hideS hin
  clear hin
  go_enter Try.func3, Try.ntmps3
  go_wp2_with fail
  refine (bytes_calls ad N cd dl x w HIn.out).mono ?_
  rintro e w1 ⟨⟨b, rfl⟩, rfl⟩
  cases b with
  | false =>
    go_wp2
    go_ret
    exact ⟨rfl, Below.refl _ _⟩
  | true =>
    by_cases hk1 : x < 1
    · go_wp2
      go_ret
      exact ⟨rfl, Below.refl _ _⟩
    · by_cases hk2 : x ≤ 65536
      · obtain ⟨k, rfl⟩ : ∃ k : Nat, x = (k : Int) := ⟨x.toNat, by omega⟩
        go_wp2_with fail
        refine (fit_calls ad N cd dl w1 HIn.out).mono ?_
        rintro e w2 ⟨⟨b, t, rfl, hfit, ht⟩, rfl⟩
        cases b with
        | false =>
          go_wp2
          go_ret
          exact ⟨rfl, Below.refl _ _⟩
        | true =>
          obtain ⟨hN, htt⟩ := hfit rfl
          by_cases htl : (t : Int) ≤ 32768
          · have hok : LOk (lenOf dl) N k := ⟨hN, by omega, by omega, by rw [← htt]; omega⟩
            have HOk := hideS hok
            clear hok htt hfit
            go_wp2_with fail
            refine (clone_calls ad N cd dl w2 HIn.out hN (fun j hj => by have := HOk.out.len hj; omega)).mono ?_
            rintro e w3 ⟨ag, cg, rfl, hNc, hR, hB⟩
            have HR := hideS hR
            have HB := hideS hB
            clear hR hB HIn
            go_wp2_with fail
            refine (index8_calls (lenOf dl) N k cg ag w3 HR.out hNc HOk.out).mono ?_
            rintro e w4 ⟨rfl, hB2⟩
            have HR2 := hideS ((HR.out.below hB2).mono hB2.size)
            have HB2 := hideS (HB.out.trans (hB2.mono HB.out.size))
            rw [Wd.two_scans]
            clear hB2 HR HB
            generalize lenOf dl = l at *
            obtain ⟨g, hg⟩ : ∃ g, g = Wd.scan (Wd.wh l N k) k := ⟨_, rfl⟩
            rw [← hg]
            have hgl : g ≤ 65536 := by have := (Wd.scan_range (Wd.wh l N k) k).2 (by omega); omega
            have Hg := hideS hg
            clear hg
            go_wp2_with fail
            go_loop [8, 9] (fun z i => ∃ v : Nat, 1 ≤ v ∧ v ≤ k ∧ z = .int .i64 1 ∧ i = .int .i64 v ∧ Hid (g = Wd.scan (Wd.wh l N k) v)) (fun _ i => (intOf i).toNat)
            case atStart => exact ⟨k, by omega, Nat.le_refl _, rfl, rfl, Hg⟩
            case round =>
              obtain ⟨v, hv1, hvk, rfl, rfl, Hs⟩ := hrel
              by_cases hlt : 1 < v
              · have hltI : (1 : Int) < (v : Int) := by omega
                have Hst : Hid (g = if Wd.wh l N k v then v else Wd.scan (Wd.wh l N k) (v - 1)) := hideS (by rw [Hs.out, Wd.scan_step hlt])
                go_wp2_with fail
                refine (holds_calls l N k v cg ag w4 HR2.out HOk.out hv1 hvk).mono ?_
                rintro e w5 ⟨rfl, rfl⟩
                obtain ⟨b, hb⟩ : ∃ b, b = Wd.wh l N k v := ⟨_, rfl⟩
                rw [← hb] at Hst ⊢
                clear hb Hs
                cases b with
                | true =>
                  have hgv : g = v := by have := Hst.out; simpa using this
                  subst hgv
                  go_wp2
                  go_ret
                  exact ⟨by first | rfl | simp, HB2.out⟩
                | false =>
                  go_wp2
                  go_round
                  case rel => exact ⟨v - 1, by omega, by omega, rfl, by go_num, hideS (by have := Hst.out; simpa using this)⟩
                  case measure => simp [intOf]; omega
              · have hv : v = 1 := by omega
                subst hv
                have hg1 : g = 1 := Hs.out
                subst hg1
                have hltI : ¬ (1 : Int) < (1 : Int) := by omega
                go_wp2
                go_ret
                exact ⟨by first | rfl | simp, HB2.out⟩
          · go_wp2
            go_ret
            exact ⟨rfl, Below.refl _ _⟩
      · go_wp2
        go_ret
        exact ⟨rfl, Below.refl _ _⟩

end Go.Proofs.Qxb6603132a
