/-
  The law FnIndexableWidthKeepsTupleKeysWithinValues.
-/
import Derived.Test.Qxb6603132aDoorKeysPos
import Derived.Test.Qxb6603132aDoorTally
namespace Go.Proofs.Qxb6603132aDoor
open Go Go.RowKit Go.Shelf

attribute [local go_sem] Oper.semAt_some

namespace Wd
theorem Sg_ge {f : Nat → Nat} {q : Nat} : ∀ {r}, q < r → f q ≤ Sg f r
  | 0, h => by omega
  | r + 1, h => by
    rw [Sg]
    by_cases e : q = r
    · subst e; omega
    · have := Sg_ge (f := f) (q := q) (r := r) (by omega)
      omega
theorem Sg_le {f g : Nat → Nat} : ∀ r, (∀ q, q < r → f q ≤ g q) → Sg f r ≤ Sg g r
  | 0, _ => Nat.le_refl _
  | r + 1, h => by
    rw [Sg, Sg]
    have h1 := Sg_le r (fun q hq => h q (by omega))
    have h2 := h r (by omega)
    omega
/-- At the width that is found the tuples are no more than the values, whatever the cut. -/
theorem within {l : Nat → Nat} {N k V : Nat} (hk : 1 ≤ k) (hs : V = scan (fun v => decide (tu (sm l 0 N) l N k v N ≤ cu l N k v N)) k) (hL : cu l N k V N ≤ 65536) : tu 65536 l N k V N ≤ cu l N k V N := by
  have hr := scan_range (fun v => decide (tu (sm l 0 N) l N k v N ≤ cu l N k v N)) k
  rw [← hs] at hr
  by_cases h1 : 1 < V
  · have h2 := scan_holds (fun v => decide (tu (sm l 0 N) l N k v N ≤ cu l N k v N)) k (by rw [← hs]; exact h1)
    rw [← hs] at h2
    have h3 : tu (sm l 0 N) l N k V N ≤ cu l N k V N := of_decide_eq_true h2
    exact (cut_same (cu_total (hr.2 hk) N) hL).1 h3
  · have h2 : V = 1 := by omega
    rw [h2]
    unfold tu cu
    refine Sg_le N (fun q _ => ?_)
    show (if q * k + 1 ≤ N then sp 65536 l (q * k) 1 else 0) ≤ (if q * k + 1 ≤ N then sm l (q * k) 1 else 0)
    by_cases h : q * k + 1 ≤ N
    · rw [if_pos h, if_pos h, sp, sp, sm, sm]
      omega
    · rw [if_neg h, if_neg h]
      exact Nat.le_refl _
theorem one_term {l : Nat → Nat} {N k v q st : Nat} (hst : st = q * k) (hk : 1 ≤ k) (hv : 1 ≤ v) (h : st + v ≤ N) (ht : tu 65536 l N k v N ≤ 32768) : pr l st v = sp 65536 l st v ∧ pr l st v ≤ 32768 := by
  have hq : q < N := by
    have := Nat.le_mul_of_pos_right q hk
    omega
  have h1 := Sg_ge (f := fun q => if q * k + v ≤ N then sp 65536 l (q * k) v else 0) hq
  have h2 : sp 65536 l st v ≤ 32768 := by
    have h3 : (if q * k + v ≤ N then sp 65536 l (q * k) v else 0) ≤ 32768 := Nat.le_trans h1 ht
    rw [if_pos (by rw [← hst]; exact h), ← hst] at h3
    exact h3
  rw [sp_eq] at h2 ⊢
  omega
theorem tu_next {l : Nat → Nat} {N k v q st : Nat} (hst : st = q * k) (h : st + v ≤ N) : tu 65536 l N k v (q + 1) = tu 65536 l N k v q + sp 65536 l st v := by
  unfold tu
  rw [Sg, if_pos (by rw [← hst]; exact h), ← hst]
theorem tu_mono {L : Nat} {l : Nat → Nat} {N k v r s : Nat} (h : r ≤ s) : tu L l N k v r ≤ tu L l N k v s := Sg_mono h
theorem tu_skip {l : Nat → Nat} {N k v q st : Nat} (hst : st = q * k) (h : ¬ st + v ≤ N) : tu 65536 l N k v (q + 1) = tu 65536 l N k v q := by
  unfold tu
  rw [Sg, if_neg (by rw [← hst]; exact h)]
  rfl
end Wd

theorem LSd.part {B : Nat} {w : World} {b off N st v : Nat} {l : Nat → Nat} (h : LSd B w (some ⟨b, off, none⟩) N l) (hst : st + v ≤ N) : LSd B w (some ⟨b, off + st, none⟩) v (fun i => l (st + i)) := by
  intro hv
  obtain ⟨b', off', e, hb, hc⟩ := h (by omega)
  cases e
  refine ⟨b, off + st, rfl, hb, fun i hi => ?_⟩
  obtain ⟨a, c, h1, h2⟩ := hc (st + i) (by omega)
  exact ⟨a, c, by rw [Nat.add_assoc]; exact h1, h2⟩
theorem tab_up {B B' : Nat} {w : World} {name : String} {k : IntKind} {zs : List Int} (h : Lib.TabBelow Tryd.prog B w name k zs) (hB : B ≤ B') : Lib.TabBelow Tryd.prog B' w name k zs := fun w' h' => h w' (h'.mono hB)

theorem index12_calls (l : Nat → Nat) (N k cg : Nat) (ag : Option Addr) (w : World) (hR : LRd w.heap.size w ag N l) (hNc : N ≤ cg) (hok : LOk l N k) :
    Calls Tryd.prog 12 #[.slice ag N cg, .int .i64 (k : Int)] w fun e w' => e = .returned (.int .i64 ((Wd.scan (fun v => decide (Wd.tu (Wd.sm l 0 N) l N k v N ≤ Wd.cu l N k v N)) k : Nat) : Int)) ∧ Below w.heap.size w w' := by
  have HR := hideS hR
  have HOk := hideS hok
  clear hR hok
  go_enter Tryd.func12, Tryd.ntmps12
  go_wp2_with fail
  refine (index_calls l N k cg ag _ HR.out hNc HOk.out).mono ?_
  rintro e w' ⟨rfl, hb⟩
  have Hb := hideS hb
  clear hb
  obtain ⟨g, hg⟩ : ∃ g, g = Wd.scan (fun v => decide (Wd.tu (Wd.sm l 0 N) l N k v N ≤ Wd.cu l N k v N)) k := ⟨_, rfl⟩
  rw [← hg]
  have Hg := hideS hg
  clear hg
  go_wp2
  go_ret
  exact ⟨by rw [← Hg.out]; rfl, Hb.out⟩

set_option maxRecDepth 100000 in
set_option maxHeartbeats 4000000 in
theorem law_calls (ad : Option Addr) (N cd : Nat) (dl : List InS) (x : Int) (w : World) (hin : SIn w ad N dl) (hT : Lib.TabBelow Tryd.prog w.heap.size w tabName .u64 Lib.pow10Tab) :
    Calls Tryd.prog 4 #[.slice ad N cd, .int .i64 x] w fun e w' => e = .returned (.bool true) ∧ Below w.heap.size w w' := by
  have HIn := hideS hin
  have HT := hideS hT
  clear hin hT
  go_enter Tryd.func4, Tryd.ntmps4
  go_wp2_with fail
  refine (bytes_calls ad N cd dl x w HIn.out).mono ?_
  rintro e w1 ⟨⟨b, rfl⟩, rfl⟩
  cases b with
  | false =>
    go_wp2
    go_ret
    exact ⟨rfl, Below.refl _ _⟩
  | true =>
    by_cases hk1 : x < 1
    · go_wp2
      go_ret
      exact ⟨rfl, Below.refl _ _⟩
    · by_cases hk2 : x ≤ 65536
      · obtain ⟨k, rfl⟩ : ∃ k : Nat, x = (k : Int) := ⟨x.toNat, by omega⟩
        go_wp2_with fail
        refine (fit_calls ad N cd dl w1 HIn.out).mono ?_
        rintro e w2 ⟨⟨b, t, rfl, hfit, ht⟩, rfl⟩
        cases b with
        | false =>
          go_wp2
          go_ret
          exact ⟨rfl, Below.refl _ _⟩
        | true =>
          obtain ⟨hN, htt, hsh⟩ := hfit rfl
          by_cases htl : (t : Int) ≤ 32768
          · have hok : LOk (lenOf dl) N k := ⟨hN, by omega, by omega, by rw [← htt]; omega⟩
            have HOk := hideS hok
            have Hsh := hideS hsh
            clear hok htt hfit hsh
            go_wp2_with fail
            refine (clone_calls ad N cd dl w2 HIn.out hN (fun j hj => by have := HOk.out.len hj; omega) Hsh.out).mono ?_
            rintro e w3 ⟨ag, cg, rfl, hNc, hR, hB⟩
            have HR := hideS hR
            have HB := hideS hB
            clear hR hB HIn Hsh
            go_wp2_with fail
            refine (index12_calls (lenOf dl) N k cg ag w3 HR.out.weak hNc HOk.out).mono ?_
            rintro e w4 ⟨rfl, hB2⟩
            have HR2 := hideS ((HR.out.below hB2).mono hB2.size)
            have HB2 := hideS (HB.out.trans (hB2.mono HB.out.size))
            clear hB2 HR HB
            generalize lenOf dl = l at *
            obtain ⟨V, hV⟩ : ∃ V, V = Wd.scan (fun v => decide (Wd.tu (Wd.sm l 0 N) l N k v N ≤ Wd.cu l N k v N)) k := ⟨_, rfl⟩
            rw [← hV]
            have hVr := Wd.scan_range (fun v => decide (Wd.tu (Wd.sm l 0 N) l N k v N ≤ Wd.cu l N k v N)) k
            rw [← hV] at hVr
            have hV1 := hVr.1
            have hVk := hVr.2 (by omega)
            have hcb : Wd.cu l N k V N ≤ 32768 := Nat.le_trans (Wd.cu_total hVk N) HOk.out.tot
            have hw := Wd.within (by omega) hV (by omega)
            have Hw := hideS hw
            clear hV hVr hw
            go_wp2_with fail
            refine (tally_calls l N k V cg ag w4 HR2.out HOk.out hV1 hVk).mono ?_
            rintro e w5 ⟨⟨c, hc, rfl⟩, rfl⟩
            rw [Nat.min_eq_left (by have := Hw.out; omega)]
            have htb := Nat.le_trans Hw.out hcb
            obtain ⟨tp, htp⟩ : ∃ tp, tp = Wd.tu 65536 l N k V N := ⟨_, rfl⟩
            obtain ⟨vl, hvl⟩ : ∃ vl, vl = Wd.cu l N k V N := ⟨_, rfl⟩
            rw [← htp] at Hw htb ⊢
            rw [← hvl] at Hw hcb ⊢
            have Htp := hideS htp
            have hle : ¬ (vl : Int) < (tp : Int) := by have := Hw.out; omega
            clear htp hvl
            by_cases hcost : (c : Int) ≤ 16777216
            · go_wp2_with fail
              have d1 : decide ((k : Int) < 1) = false := decide_eq_false (by omega)
              have d2 : decide ((65536 : Int) < (k : Int)) = false := decide_eq_false (by omega)
              have d3 : decide ((32768 : Int) < (t : Int)) = false := decide_eq_false (by omega)
              have d4 : decide ((V : Int) < 1) = false := decide_eq_false (by omega)
              have d5 : decide ((vl : Int) < (tp : Int)) = false := decide_eq_false (by omega)
              have d6 : decide ((16777216 : Int) < (c : Int)) = false := decide_eq_false (by omega)
              have d7 : decide (vl < tp) = false := decide_eq_false (by omega)
              have d8 : decide (k < V) = false := decide_eq_false (by omega)
              simp only [d1, d2, d3, d4, Bool.or_false]
              try simp only [d5]
              try simp only [d6]
              try simp only [d7]
              try simp only [d8]
              clear d1 d2 d3 d4 d5 d6 d7 d8
              go_loopw [11, 12] (fun g j wr => ∃ q st : Nat, Hid (st = q * k) ∧ st ≤ N + k ∧ j = .int .i64 st ∧ g = .int .i64 ((Wd.tu 65536 l N k V q : Nat) : Int) ∧ Below w5.heap.size w5 wr) (fun _ j _ => N + k - (intOf j).toNat)
              case atStart => exact ⟨0, 0, hideS (by simp), Nat.zero_le _, rfl, rfl, Below.refl _ _⟩
              case round =>
                obtain ⟨q, st, Hst, hst, rfl, rfl, hbl⟩ := hrel
                have Hbl := hideS hbl
                clear hbl
                by_cases hlt : st < N
                · have hltI : (st : Int) < (N : Int) := by omega
                  have hqN : q + 1 ≤ N := by
                    have h1 := Nat.le_mul_of_pos_right q HOk.out.k1
                    have h2 := Hst.out
                    omega
                  have htq : Wd.tu 65536 l N k V q ≤ 32768 := Nat.le_trans (Wd.tu_mono (s := N) (by omega)) (by rw [← Htp.out]; exact htb)
                  by_cases hw : st + V ≤ N
                  · have hwI : ¬ (N : Int) - (st : Int) < (V : Int) := by omega
                    obtain ⟨hp1, hp2⟩ := Wd.one_term (l := l) Hst.out HOk.out.k1 hV1 hw (by rw [← Htp.out]; exact htb)
                    have Hnx := hideS (Wd.tu_next (l := l) Hst.out hw)
                    rw [← hp1] at Hnx
                    obtain ⟨b, off, ra, hb, _⟩ := HR2.out.at hlt
                    subst ra
                    have hkc : Calls Tryd.prog 8 #[.slice (some ⟨b, off + st, none⟩) V (cg - st)] wr (KPost wr (Wd.pr l st V)) := by
                      rw [← Wd.pr_shift]
                      exact keys8_calls (fun i => l (st + i)) V (cg - st) _ wr (((HR2.out.below Hbl.out).mono Hbl.out.size).part hw) hV1 (by omega) (fun i hi => HOk.out.len (by omega)) (by rw [Wd.pr_shift]; omega) (tab_up (HT.out.on (HB2.out.trans (Hbl.out.mono HB2.out.size))) (by have := HB2.out.size; have := Hbl.out.size; omega))
                    have Hkc := hideS hkc
                    generalize Wd.pr l st V = pv at *
                    generalize Wd.tu 65536 l N k V q = tq at *
                    have hs1 : (st : Int) ≤ (st : Int) + (V : Int) := by omega
                    have hs2 : (st : Int) + (V : Int) ≤ (cg : Int) := by omega
                    have hs3 : ¬ cg = st := by omega
                    clear hkc hp1
                    go_wp2_with fail
                    refine Hkc.out.mono ?_
                    rintro e w6 ⟨⟨a6, c6, rfl⟩, hb6⟩
                    have Hb6 := hideS (Hbl.out.trans (hb6.mono Hbl.out.size))
                    clear hb6 Hkc
                    go_wp2
                    go_roundw
                    case rel => exact ⟨q + 1, st + k, hideS (by rw [Nat.succ_mul, ← Hst.out]), by omega, by go_num, by rw [Hnx.out]; first | rfl | go_num, Hb6.out⟩
                    case measure => simp [intOf]; omega
                  · have hwI : (N : Int) - (st : Int) < (V : Int) := by omega
                    have Hnx := hideS (Wd.tu_skip (l := l) Hst.out hw)
                    generalize Wd.tu 65536 l N k V q = tq at *
                    go_wp2
                    go_roundw
                    case rel => exact ⟨q + 1, st + k, hideS (by rw [Nat.succ_mul, ← Hst.out]), by omega, by go_num, by rw [Hnx.out], Hbl.out⟩
                    case measure => simp [intOf]; omega
                · have hltI : ¬ (st : Int) < (N : Int) := by omega
                  rw [Wd.tu_end HOk.out.k1 (by omega) (by rw [← Hst.out]; omega), ← Htp.out]
                  have hle2 : (tp : Int) ≤ (vl : Int) := by omega
                  go_wp2
                  go_ret
                  exact ⟨by first | rfl | simp, HB2.out.trans (Hbl.out.mono HB2.out.size)⟩
            · go_wp2
              go_ret
              exact ⟨rfl, HB2.out⟩
          · go_wp2
            go_ret
            exact ⟨rfl, Below.refl _ _⟩
      · go_wp2
        go_ret
        exact ⟨rfl, Below.refl _ _⟩

end Go.Proofs.Qxb6603132aDoor
