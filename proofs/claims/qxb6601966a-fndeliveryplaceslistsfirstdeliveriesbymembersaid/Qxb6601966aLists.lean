/-
  FnDeliveryPlacesListsFirstDeliveriesByMember: the walk.
-/
import Derived.Test.Qxb6601966aGrid
namespace Go.Proofs.Qxb6601966a
open Go Go.RowKit

theorem fill_step {w : World} {b n t : Nat} (h : RowAt w b n (fun x => if x < t then -1 else 0)) : RowAt (w.setCell ⟨b, t, none⟩ (.int .i64 (-1))) b n (fun x => if x < t + 1 then -1 else 0) :=
  (h.set t (-1)).congr (fun x _ => by
    by_cases e : x = t
    · simp [e]
    · have h1 : (x < t + 1) ↔ (x < t) := by omega
      simp [e, h1])

theorem RowAt.block {w w' : World} {b n : Nat} {G : Nat → Int} (h : RowAt w b n G) (e : w'.heap[b]? = w.heap[b]?) : RowAt w' b n G := fun x hx =>
  ⟨(World.cell?_of_block (a := ⟨b, x, none⟩) e).trans (h x hx).1, (World.frozen?_of_block (a := ⟨b, x, none⟩) e).trans (h x hx).2⟩

theorem GM.step' {W wr w2 : World} {sb g0 g1 n : Nat} {V : Bool → Nat → Value} {X : Bool → Nat → List Int} (h : GM W wr sb g0 g1 n V X) (h0 : g0 < W.heap.size) (h1 : g1 < W.heap.size) (hne : g0 ≠ g1) (s : Bool) {x : Nat} (hx : x < n) {o : Obj} {g cap : Nat} {z : Int} {v : Value} (hv : v = V s x)
    (hown : w2.ownsRow W.heap.size 3 1 (.slice (some ⟨g, 0, none⟩) ((X s x).length + 1) cap) ((X s x).length + 1) ((X s x).map (Value.int .i64) ++ [.int .i64 z])) (hgr : (wr.alloc o).grownBy w2 v.ownBlock) (hloc : v.ownBlock = some g ∨ g = (wr.alloc o).heap.size) :
    (∀ s' x', x' < n → w2.cell? ⟨gbf g0 g1 s', x', none⟩ = some (V s' x') ∧ w2.frozen? ⟨gbf g0 g1 s', x', none⟩ = false) ∧
    GM W (w2.setCell ⟨gbf g0 g1 s, x, none⟩ (.slice (some ⟨g, 0, none⟩) ((X s x).length + 1) cap)) sb g0 g1 n (upd V s x (.slice (some ⟨g, 0, none⟩) ((X s x).length + 1) cap)) (upd X s x (X s x ++ [z])) ∧
    ∀ k, k < W.heap.size → k ≠ gbf g0 g1 s → (w2.setCell ⟨gbf g0 g1 s, x, none⟩ (.slice (some ⟨g, 0, none⟩) ((X s x).length + 1) cap)).heap[k]? = wr.heap[k]? := by
  subst hv
  exact h.step h0 h1 hne s hx rfl hown hgr (hloc.elim .inl fun h => .inr (by simpa using h))

set_option maxRecDepth 100000 in
set_option maxHeartbeats 4000000 in
theorem lists_main (n K D cm cd : Nat) (am ad : Option Addr) (dl : List Inn) (mz : List Int) (w : World) (hn : n ≤ 65536) (hK : K ≤ 131072) (hD : D ≤ 131072) (hin : DIn w am ad K D dl mz) :
    Calls Try.prog 7 #[.int .i64 (n : Int), .slice am K cm, .slice ad D cd] w fun e w' => e = .returned (.bool true) ∧ Below w.heap.size w w' := by
  have HIn := hide3 hin
  have hby := hide3 (bytes_lists (n : Int) am ad K cm D cd dl w hin.km hin.d hin.dm hin.dr hin.len)
  have hib := hide3 (inner_calls ad (8 * K + 24 * D) D cd dl w (by omega) hin.d hD hin.dr hin.len)
  have q22 : ∀ (w : World) (a : Option Addr) (n c n' c' : Nat), (binOp .neq 22 (.slice a n c) (.slice none n' c')).run Try.prog w = .ok (.bool (!a.isNone)) w := fun w a n c n' c' => run_neq_slice_nil_any w _ _ a n c n' c' Try.underlying22
  clear hin
  go_enter Try.func7, Try.ntmps7
  go_wp2_with fail
  refine hby.out.mono ?_
  rintro e w1 ⟨⟨b, rfl⟩, rfl⟩
  cases b
  · go_wp2
    go_ret
    exact ⟨rfl, Below.refl _ _⟩
  go_wp2_with fail
  have ek : (8 : Int) * (K : Int) + 24 * (D : Int) = ((8 * K + 24 * D : Nat) : Int) := by omega
  rw [ek]
  refine hib.out.mono ?_
  rintro e w2 ⟨⟨r, rfl, hr⟩, rfl⟩
  clear hby hib ek
  by_cases hr0 : r ≤ 1048576
  · have hlen := hr hr0
    have hlen' : ∀ j, (dl.getD j d0).zs.length ≤ 131072 := by
      intro j
      by_cases hj : j < dl.length
      · exact hlen j hj
      · rw [List.getD_eq_getElem?_getD, List.getElem?_eq_none (by omega)]
        simp [d0]
    have hpr := hide3 (premise_calls n 1048576 am ad K cm D cd dl mz w2 (by omega) HIn.out.k hK HIn.out.m HIn.out.d HIn.out.dr (fun j => by have := hlen' j; omega))
    have Hlen := hide3 hlen'
    clear hlen hr hlen'
    go_wp2_with fail
    refine hpr.out.mono ?_
    rintro e w3 ⟨⟨b, rfl, hb⟩, rfl⟩
    cases b
    · go_wp2
      go_ret
      exact ⟨rfl, Below.refl _ _⟩
    obtain ⟨ms, hms, hmsl, hok⟩ := (hb rfl).nats (fun j => by have := Hlen.out j; omega) hn (by have := HIn.out.k; omega) (by have := HIn.out.d; omega)
    have HOk := hide3 hok
    have HMs := hide3 hms
    have HMl := hide3 hmsl
    clear hb hpr hok hms hmsl
    go_upto_if 61 with fail
    go_cut [1] (fun v wc => MembC w3 wc v K mz)
    case first =>
      cases am with
      | none =>
        have hz := HIn.out.am rfl
        go_wp2
        go_meet
        exact ⟨none, cm, rfl, hz ▸ RdL.nil, Below.refl _ _⟩
      | some x =>
        obtain ⟨W1, W2, hmk, hcp, hR2, hB2⟩ := memb_eq w3 x cm mz HIn.out.m (by have := HIn.out.k; omega)
        rw [← HIn.out.k] at hmk hcp
        go_wp2
        go_meet
        exact ⟨_, _, rfl, hR2, hB2⟩
    case rest =>
      obtain ⟨am', cm', rfl, hRm, hBc⟩ := hcut
      obtain ⟨wm, rfl⟩ : ∃ wm, wm = wc := ⟨_, rfl⟩
      obtain ⟨W1, hmk1, hA1, hB1, hS1⟩ := make_eq 22 3 (.int .i64 0) 8 rfl Try.underlying22 i3 wm n (by omega) (by unfold maxLen; omega)
      have HRm := hide3 hRm
      have HBc := hide3 hBc
      have HA1 := hide3 hA1
      have HB1 := hide3 hB1
      have HS1 := hide3 hS1
      clear hRm hBc hA1 hB1 hS1
      obtain ⟨sb, hsb⟩ : ∃ sb, sb = wm.heap.size := ⟨_, rfl⟩
      rw [← hsb] at hmk1 HA1 HB1 HS1
      have Hsb := hide3 hsb
      clear hsb
      go_wp2_with fail
      go_loopw [9] (fun i wr => ∃ t : Nat, t ≤ n ∧ i = .int .i64 t ∧ RowAt wr sb n (fun x => if x < t then -1 else 0) ∧ Keeps [sb] W1 wr) (fun i _ => n - (intOf i).toNat)
      case atStart => exact ⟨0, Nat.zero_le _, rfl, HA1.out.row.congr (fun x _ => by simp), Keeps.refl _ _⟩
      case round =>
        clear hmk1
        obtain ⟨t, ht, rfl, hR, hKp⟩ := hrel
        by_cases hlt : t < n
        · obtain ⟨c1, c2⟩ := hR t hlt
          have HR := hide3 (fill_step hR)
          clear hR
          have hltI : (t : Int) < (n : Int) := by omega
          go_wp2
          go_roundw
          case rel => exact ⟨t + 1, by omega, by go_num, HR.out, hKp.setCell (by simp) _⟩
          case measure => simp [intOf]; omega
        · obtain rfl : n = t := by omega
          obtain ⟨W2, hmk2, hA2, hB2, hS2⟩ := make_eq 40 22 (.slice none 0 0) 24 rfl Try.underlying40 i22 wr n (by omega) (by unfold maxLen; omega)
          obtain ⟨W3, hmk3, hA3, hB3, hS3⟩ := make_eq 40 22 (.slice none 0 0) 24 rfl Try.underlying40 i22 W2 n (by omega) (by unfold maxLen; omega)
          obtain ⟨g0, hg0⟩ : ∃ g0, g0 = wr.heap.size := ⟨_, rfl⟩
          obtain ⟨g1, hg1⟩ : ∃ g1, g1 = W2.heap.size := ⟨_, rfl⟩
          rw [← hg0] at hmk2 hA2 hB2 hS2
          rw [← hg1] at hmk3 hA3 hB3 hS3
          have hs1 := HS1.out
          have hs2 := hKp.size
          have hsbv := Hsb.out
          have hord : wm.heap.size ≤ sb ∧ sb < g0 ∧ g0 < g1 ∧ g1 < W3.heap.size := by omega
          have b1 : Below wm.heap.size wm wr := (HB1.out.mono (by omega)).trans (hKp.below (by simp; omega))
          have b3 : Below wm.heap.size wm W3 := b1.trans ((hB2.mono (by omega)).trans (hB3.mono (by omega)))
          have HRm3 := hide3 (HRm.out.below b3)
          have HB3 := hide3 (HBc.out.trans (b3.mono HBc.out.size))
          have HR3 := hide3 ((hR.below hB2 (by omega)).below hB3 (by omega))
          have HA2 := hide3 (show AllAt W3 g0 n (.slice none 0 0) from fun x hx => ⟨(hB3.cell (p := ⟨g0, x, none⟩) (show g0 < g1 by omega)).trans (hA2 x hx).1, (hB3.frozen (p := ⟨g0, x, none⟩) (show g0 < g1 by omega)).trans (hA2 x hx).2⟩)
          have HA3 := hide3 hA3
          have Hord := hide3 hord
          have hw3m := HBc.out.size
          have hkm : K = ms.length := by rw [HMl.out]; exact HIn.out.k
          have HKm := hide3 hkm
          obtain ⟨Ls, hLs⟩ : ∃ Ls, Ls = LsOf dl ms := ⟨_, rfl⟩
          have HLs := hide3 hLs
          have HD3 := hide3 ((HIn.out.dr.below HB3.out).mono hw3m)
          clear hA2 hA3 hB2 hB3 hS2 hS3 hg0 hg1 hs1 hs2 hsbv hord b1 b3 hR hKp HA1 HB1 HS1 hlt ht hkm hLs
          go_wp2_with fail
          go_loopw [12] (fun i wr => ∃ (k : Nat) (V : Bool → Nat → Value) (sf : Nat → Int), k ≤ K ∧ i = .int .i64 k ∧ GM W3 wr sb g0 g1 n V (XX Ls k 0) ∧ RowAt wr sb n sf ∧ SeenI n Ls k 0 sf) (fun i _ => K - (intOf i).toNat)
          case atStart => exact ⟨0, fun _ _ => .slice none 0 0, _, Nat.zero_le _, rfl, (GM.start HA2.out HA3.out).congr (fun s x _ => XX_start Ls s x), HR3.out, fun y hy => ⟨fun h => by simp at h, fun _ => by simp [hy]⟩⟩
          case round =>
            clear hmk2 hmk3 HR3 HA2 HA3
            obtain ⟨k, V, sf, hk, rfl, hG, hR, hSn⟩ := hrel
            obtain ⟨s1, s2, s3, s4⟩ := Hord.out
            have HG := hide3 hG
            have HR := hide3 hR
            have HSn := hide3 hSn
            clear hG hR hSn
            by_cases hlt : k < K
            · have hbl0 : Below wm.heap.size W3 wr := HG.out.below (by omega) (by omega) (by omega) (by omega)
              obtain ⟨hm1, hm2⟩ := HOk.out.mem k (by have := HKm.out; omega)
              obtain ⟨m, hm⟩ : ∃ m, m = ms.getD k 0 := ⟨_, rfl⟩
              rw [← hm] at hm1 hm2
              obtain ⟨bm, om, ram, hbm, hcm⟩ := (HRm3.out.below hbl0).at (i := k) (by have := HIn.out.k; omega)
              subst ram
              have hcm' : wr.cell? ⟨bm, om + k, none⟩ = some (.int .i64 (m : Int)) := by
                rw [hcm, hm, HMs.out]
                have hk' : k < ms.length := by have := HKm.out; omega
                simp [List.getElem?_eq_getElem hk']
              obtain ⟨bd, od, rad, hbd, hcd, hrd⟩ := (HD3.out.below hbl0).at hm1
              subst rad
              have hLk : Ls k = (dl.getD m d0).zs := by rw [HLs.out, LsOf, ← hm]
              have HRd := hide3 ((show RdL wm.heap.size W3 (dl.getD m d0).a (dl.getD m d0).zs from by obtain ⟨_, _, _, _, _, h⟩ := HD3.out.at hm1; exact h))
              rw [← hLk] at hcd HRd hm2
              have hll : (Ls k).length ≤ 131072 := by rw [hLk]; exact Hlen.out m
              have HM2 := hide3 hm2
              have hmI : (m : Int) < (D : Int) := by have := HIn.out.d; omega
              generalize (dl.getD m d0).a = ai at *
              generalize (dl.getD m d0).c = ci at *
              clear hcm hm hLk hm2 hbl0 hrd
              go_wp2_with fail
              go_loopw [14] (fun i wr => ∃ (a : Nat) (V : Bool → Nat → Value) (sf : Nat → Int), a ≤ (Ls k).length ∧ i = .int .i64 a ∧ GM W3 wr sb g0 g1 n V (XX Ls k a) ∧ RowAt wr sb n sf ∧ SeenI n Ls k a sf) (fun i _ => (Ls k).length - (intOf i).toNat)
              case atStart => exact ⟨0, V, sf, Nat.zero_le _, rfl, HG.out, HR.out, HSn.out⟩
              case round =>
                clear HG HR HSn hcm' hcd
                obtain ⟨a, V, sf, ha, rfl, hG, hR, hSn⟩ := hrel
                have HG := hide3 hG
                have HR := hide3 hR
                have HSn := hide3 hSn
                clear hG hR hSn
                by_cases hla : a < (Ls k).length
                · have hbl0 : Below wm.heap.size W3 wr := HG.out.below (by omega) (by omega) (by omega) (by omega)
                  obtain ⟨b1, o1, ra1, hb1, hc1⟩ := (HRd.out.below hbl0).at hla
                  subst ra1
                  obtain ⟨y, hy, hyn⟩ := HM2.out.at hla
                  rw [hy] at hc1
                  have hyI : (y : Int) < (n : Int) := by omega
                  obtain ⟨p1, p2⟩ := HR.out y hyn
                  obtain ⟨e1, e2⟩ := HSn.out y hyn
                  by_cases hmy : (y : Int) ∈ (Ls k).take a
                  · have e3 := e1 hmy
                    rw [e3] at p1
                    have HG2 := hide3 (HG.out.congr (fun s x _ => XX_old Ls hla hy hmy s x))
                    have HSn2 := hide3 (HSn.out.old hla hy hmy)
                    clear e1 e2 e3 hy hmy hbl0 HG HSn
                    go_wp2
                    go_roundw
                    case rel =>
                      first
                        | exact ⟨a + 1, V, sf, by omega, by go_num, HG2.out, HR.out, HSn2.out⟩
                        | ((repeat apply Exists.intro); refine ⟨?_, rfl⟩; exact ⟨a + 1, V, sf, by omega, by go_num, HG2.out, HR.out, HSn2.out⟩)
                    case measure => simp [intOf]; omega
                  · have e3 := e2 hmy
                    have HSn2 := hide3 (HSn.out.new hla hy)
                    have HR2 := hide3 (HR.out.set y (k : Int))
                    have HG2 := hide3 (HG.out.seen (by omega) (by omega) (by omega) y (.int .i64 (k : Int)))
                    have HXX := hide3 (XX_new Ls hla hy hmy)
                    have hne1 : ¬ sf y = (k : Int) := by omega
                    have hne2 : (sf y == (k : Int)) = false := by rw [beq_eq_false_iff_ne]; exact hne1
                    have hlx := XX_bound Ls k a false y
                    have hly := XX_bound Ls k a true y
                    generalize sf y = v at *
                    clear e1 e2 e3 hy hmy hbl0 HG HSn HR
                    go_upto_region 30 with fail
                    generalize wr.setCell ⟨sb, y, none⟩ (.int .i64 (k : Int)) = Wa at *
                    obtain ⟨v0, hv0⟩ : ∃ v0, v0 = V false y := ⟨_, rfl⟩
                    obtain ⟨L0, hL0⟩ : ∃ L0, L0 = (XX Ls k a false y).length := ⟨_, rfl⟩
                    have gc0 : Wa.cell? ⟨g0, y, none⟩ = some v0 := by rw [hv0]; exact (HG2.out.cell false y hyn).1
                    have own0 := HG2.out.own false y hyn
                    rw [← hv0, ← hL0] at own0
                    rw [← hL0] at hlx
                    have Hv0 := hide3 hv0
                    have HL0 := hide3 hL0
                    have hsz0 := HG2.out.size
                    clear hv0 hL0 p1 p2 hc1
                    go_upto_region 31 with (at_builtin; go_must (refine wpList_append_shaped _ rfl _ _ 22 rfl W3.heap.size 3 (.int .i64 0) 1 8 Try.underlying22 i3 rfl (by decide) v0 L0 _ rfl (own0.alloc _) ⟨Wa.heap.size, 0, none⟩ 1 1 [.int .i64 (k : Int)] rfl rfl (cells_one _ _ _) (by simp [Value.oneCell']) (by decide) (by show L0 + 1 ≤ maxLen; unfold maxLen; omega) (by show (L0 + 1) * 8 ≤ _; omega) (by simp; omega) ?_); go_must (intro gA capA wA hownA hgrA hlocA; have stA := HG2.out.step' (by omega) (by omega) (by omega) false hyn Hv0.out (by rw [← HL0.out]; exact hownA) hgrA hlocA; have mA : wA.cell? ⟨g0, y, none⟩ = some v0 ∧ wA.frozen? ⟨g0, y, none⟩ = false := by rw [Hv0.out]; exact stA.1 false y hyn))
                    obtain ⟨_, SA, BA⟩ := stA
                    rw [← HL0.out] at SA BA
                    have SA : GM W3 (wA.setCell ⟨g0, y, none⟩ (.slice (some ⟨gA, 0, none⟩) (L0 + 1) capA)) sb g0 g1 n (upd V false y (.slice (some ⟨gA, 0, none⟩) (L0 + 1) capA)) (upd (XX Ls k a) false y (XX Ls k a false y ++ [(k : Int)])) := SA
                    have BA : ∀ q, q < W3.heap.size → q ≠ g0 → (wA.setCell ⟨g0, y, none⟩ (.slice (some ⟨gA, 0, none⟩) (L0 + 1) capA)).heap[q]? = Wa.heap[q]? := BA
                    have HRb := hide3 (HR2.out.block (BA sb (by omega) (by omega)))
                    clear hownA hgrA hlocA mA gc0 own0 BA HR2 HG2 hsz0
                    generalize wA.setCell ⟨g0, y, none⟩ (.slice (some ⟨gA, 0, none⟩) (L0 + 1) capA) = Wb at *
                    obtain ⟨V1, hV1⟩ : ∃ V1, V1 = upd V false y (.slice (some ⟨gA, 0, none⟩) (L0 + 1) capA) := ⟨_, rfl⟩
                    obtain ⟨X1, hX1⟩ : ∃ X1, X1 = upd (XX Ls k a) false y (XX Ls k a false y ++ [(k : Int)]) := ⟨_, rfl⟩
                    rw [← hV1, ← hX1] at SA
                    have hlen1 : (X1 true y).length ≤ k + 1 := by rw [hX1]; simpa [upd] using hly
                    obtain ⟨v1, hv1⟩ : ∃ v1, v1 = V1 true y := ⟨_, rfl⟩
                    obtain ⟨L1, hL1⟩ : ∃ L1, L1 = (X1 true y).length := ⟨_, rfl⟩
                    have gc1 : Wb.cell? ⟨g1, y, none⟩ = some v1 := by rw [hv1]; exact (SA.cell true y hyn).1
                    have own1 := SA.own true y hyn
                    rw [← hv1, ← hL1] at own1
                    rw [← hL1] at hlen1
                    have Hv1 := hide3 hv1
                    have HL1 := hide3 hL1
                    have HX1 := hide3 hX1
                    have HSA := hide3 SA
                    have hsz1 := SA.size
                    clear hv1 hL1 hX1 hV1 SA HL0 Hv0 hlx hly
                    go_wp2_with (at_builtin; go_must (refine wpList_append_shaped _ rfl _ _ 22 rfl W3.heap.size 3 (.int .i64 0) 1 8 Try.underlying22 i3 rfl (by decide) v1 L1 _ rfl (own1.alloc _) ⟨Wb.heap.size, 0, none⟩ 1 1 [.int .i64 (a : Int)] rfl rfl (cells_one _ _ _) (by simp [Value.oneCell']) (by decide) (by show L1 + 1 ≤ maxLen; unfold maxLen; omega) (by show (L1 + 1) * 8 ≤ _; omega) (by simp; omega) ?_); go_must (intro gB capB wB hownB hgrB hlocB; have stB := HSA.out.step' (by omega) (by omega) (by omega) true hyn Hv1.out (by rw [← HL1.out]; exact hownB) hgrB hlocB; have mB : wB.cell? ⟨g1, y, none⟩ = some v1 ∧ wB.frozen? ⟨g1, y, none⟩ = false := (by rw [Hv1.out]; exact stB.1 true y hyn); have HstB := hide3 stB; clear stB))
                    obtain ⟨_, SB, BB⟩ := HstB.out
                    rw [← HL1.out] at SB BB
                    have hfin : GM W3 (wB.setCell ⟨g1, y, none⟩ (.slice (some ⟨gB, 0, none⟩) (L1 + 1) capB)) sb g0 g1 n (upd V1 true y (.slice (some ⟨gB, 0, none⟩) (L1 + 1) capB)) (XX Ls k (a + 1)) := by
                      refine GM.congr SB (fun s x _ => ?_)
                      rw [HX1.out]
                      exact HXX.out s x
                    have hrow := HRb.out.block (BB sb (by omega) (show sb ≠ g1 by omega))
                    go_roundw
                    case rel =>
                      first
                        | exact ⟨a + 1, _, _, by omega, by go_num, hfin, hrow, HSn2.out⟩
                        | ((repeat apply Exists.intro); refine ⟨?_, rfl⟩; exact ⟨a + 1, _, _, by omega, by go_num, hfin, hrow, HSn2.out⟩)
                    case measure => simp [intOf]; omega
                · have HG2 := hide3 (HG.out.congr (fun s x _ => XX_end Ls (k := k) (a := a) (by omega) s x))
                  have HSn2 := hide3 HSn.out.fin
                  clear HG HSn
                  go_wp2
                  go_roundw
                  case rel =>
                    first
                      | exact ⟨k + 1, V, sf, by omega, by go_num, HG2.out, HR.out, HSn2.out⟩
                      | ((repeat apply Exists.intro); refine ⟨?_, rfl⟩; exact ⟨k + 1, V, sf, by omega, by go_num, HG2.out, HR.out, HSn2.out⟩)
                  case measure => simp [intOf]; omega
            · obtain rfl : K = k := by omega
              obtain ⟨cs, hm62⟩ := make62 n hn
              have hbl0 : Below wm.heap.size W3 wr := HG.out.below (by omega) (by omega) (by omega) (by omega)
              have hszr := HG.out.size
              have HW0 := hide3 (HB3.out.trans (hbl0.mono hw3m))
              have HRm0 := hide3 ((HRm3.out.below hbl0).mono (show wm.heap.size ≤ wr.heap.size by omega))
              have HD0 := hide3 ((HD3.out.below hbl0).mono (show wm.heap.size ≤ wr.heap.size by omega))
              have Hrows := hide3 (fun (s : Bool) (x : Nat) (hx : x < n) => HG.out.read s hx)
              have hg0 : g0 < wr.heap.size := by omega
              have hg1 : g1 < wr.heap.size := by omega
              clear HG HR HSn hbl0 hlt
              go_wp2_with fail
              obtain ⟨wa, hwa⟩ : ∃ wa, wa = wr.alloc (.cells cs 99) := ⟨_, rfl⟩
              rw [← hwa]
              have bl1 : Below wr.heap.size wr wa := by rw [hwa]; exact (Below.refl _ _).alloc (Nat.le_refl _) _
              refine (newh_calls _ am' ad n n K cm' D cd wa).mono ?_
              rintro e wb ⟨rfl, g6, g11, g12, hsb', bl2⟩
              have bl3 : Below wr.heap.size wr wb := bl1.trans (bl2.mono bl1.size)
              have hH : HC wb wb.heap.size wa.heap.size n cd cm' n ad am' (some ⟨wr.heap.size, 0, none⟩) dl ms := by
                refine ⟨?_, ?_, g12, (HD0.out.below bl3).mono bl3.size, ?_, by omega⟩
                · rw [← HIn.out.d]; exact g6
                · rw [← HKm.out]; exact g11
                · rw [← HMs.out]; exact (HRm0.out.below bl3).mono bl3.size
              have hcall := hide3 (places2_calls wa.heap.size n cd cm' n ad am' _ dl ms wb hH HOk.out)
              rw [← HKm.out, ← HLs.out] at hcall
              have Hbl3 := hide3 bl3
              clear hH bl1 bl2 bl3 g6 g11 g12 hsb' hwa
              go_wp2_with fail
              refine hcall.out.mono ?_
              rintro e W ⟨pb, plb, rfl, hR1, hP1, hpb, hplb, hbl4⟩
              obtain ⟨T, hT⟩ : ∃ T, T = Dp.S (cN Ls K) n := ⟨_, rfl⟩
              rw [← hT]
              have hTb : T ≤ 8589934592 := by rw [hT]; exact S_small Ls hK hn (Nat.le_refl _)
              have c0 : W.cell? ⟨pb, 0, none⟩ = some (.int .i64 0) := (hR1 0 (by omega)).1
              have cn : W.cell? ⟨pb, n, none⟩ = some (.int .i64 (T : Int)) := by rw [hT]; exact (hR1 n (by omega)).1
              have blW : Below wr.heap.size wr W := Hbl3.out.trans (hbl4.mono Hbl3.out.size)
              have HblW := hide3 blW
              have HT := hide3 hT
              have HR1 := hide3 hR1
              have HP1 := hide3 hP1
              have HWW := hide3 (HW0.out.trans (blW.mono HW0.out.size))
              have Hrw := hide3 (show ∀ (s : Bool) (x : Nat), x < n → ∃ a c, W.cell? ⟨gbf g0 g1 s, x, none⟩ = some (.slice a (cN Ls K x) c) ∧ RdL W.heap.size W a (XX Ls K 0 s x) from fun s x hx => by
                obtain ⟨a, c, h1, h2⟩ := Hrows.out s x hx
                rw [XX_len, Dp.Fka_zero] at h1
                refine ⟨a, c, (blW.cell (p := ⟨gbf g0 g1 s, x, none⟩) (by cases s <;> simpa [gbf])).trans h1, (h2.below blW).mono blW.size⟩)
              have hg0W : g0 < W.heap.size := Nat.lt_of_lt_of_le hg0 blW.size
              have hg1W : g1 < W.heap.size := Nat.lt_of_lt_of_le hg1 blW.size
              have hnI : (n : Int) < (n : Int) + 1 := by omega
              clear hcall hR1 hP1 hbl4 blW hT hm62 Hbl3
              go_wp2_with fail
              go_loopw [18] (fun i wv => ∃ x : Nat, x ≤ n ∧ i = .int .i64 x ∧ Below W.heap.size W wv) (fun i _ => n - (intOf i).toNat)
              case atStart => exact ⟨0, Nat.zero_le _, rfl, Below.refl _ _⟩
              case round =>
                clear c0 cn
                obtain ⟨x, hx, rfl, hbl⟩ := hrel
                by_cases hltx : x < n
                · obtain ⟨sx, hsx⟩ : ∃ sx, sx = Dp.S (cN Ls K) x := ⟨_, rfl⟩
                  obtain ⟨qx, hqx⟩ : ∃ qx, qx = Dp.S (cN Ls K) (x + 1) := ⟨_, rfl⟩
                  obtain ⟨c, hc⟩ : ∃ c, c = cN Ls K x := ⟨_, rfl⟩
                  have p1 : wr.cell? ⟨pb, x, none⟩ = some (.int .i64 (sx : Int)) := by rw [hsx]; exact (HR1.out.below hbl hpb x (by omega)).1
                  have p2 : wr.cell? ⟨pb, x + 1, none⟩ = some (.int .i64 (qx : Int)) := by rw [hqx]; exact (HR1.out.below hbl hpb (x + 1) (by omega)).1
                  have hq : qx = sx + c := by rw [hqx, hsx, hc]; rfl
                  have hqT : qx ≤ T := by rw [hqx, HT.out]; exact Dp.S_le _ (by omega)
                  obtain ⟨a0, c0', r0, d0'⟩ := Hrw.out false x hltx
                  obtain ⟨a1, c1', r1, d1'⟩ := Hrw.out true x hltx
                  rw [← hc] at r0 r1
                  have m0 : wr.cell? ⟨g0, x, none⟩ = some (.slice a0 c c0') := (hbl.cell (p := ⟨g0, x, none⟩) hg0W).trans r0
                  have HPx := hide3 (fun (j : Nat) (hj : j < c) => HP1.out x j hltx (by rw [← hc]; exact hj))
                  rw [← hsx] at HPx
                  have Hr0 := hide3 r0
                  have Hr1 := hide3 r1
                  have Hd0 := hide3 d0'
                  have Hd1 := hide3 d1'
                  have Hlc : Hid (c = (XX Ls K 0 false x).length ∧ c = (XX Ls K 0 true x).length) := hide3 ⟨by rw [XX_len, Dp.Fka_zero, hc]; rfl, by rw [XX_len, Dp.Fka_zero, hc]; rfl⟩
                  have hq1 : (qx : Int) - (sx : Int) = (c : Int) := by omega
                  have hq2 : ¬ (qx : Int) < (sx : Int) := by omega
                  have hq3 : (qx : Int) ≤ (T : Int) := by omega
                  have hxI : (x : Int) < (n : Int) := by omega
                  have hxI2 : (x : Int) + 1 < (n : Int) + 1 := by omega
                  have hsc : sx + c ≤ T := by omega
                  have hcb : c ≤ 8589934592 := by omega
                  clear hsx hqx hc hq r0 r1 d0' d1'
                  go_wp2_with fail
                  go_loopw [21] (fun i wv => ∃ j : Nat, j ≤ c ∧ i = .int .i64 j ∧ Below W.heap.size W wv) (fun i _ => c - (intOf i).toNat)
                  case atStart => exact ⟨0, Nat.zero_le _, rfl, hbl⟩
                  case round =>
                    clear hbl p1 p2 m0
                    obtain ⟨j, hj, rfl, hbl⟩ := hrel
                    by_cases hltj : j < c
                    · obtain ⟨x1, x2⟩ := HPx.out j hltj
                      obtain ⟨y1, y2⟩ := XX_get Ls K x j
                      obtain ⟨b0, o0, ra0, hb0, hz0⟩ := Hd0.out.at (i := j) (by have := Hlc.out.1; omega)
                      obtain ⟨b1, o1, ra1, hb1, hz1⟩ := Hd1.out.at (i := j) (by have := Hlc.out.2; omega)
                      subst ra0
                      subst ra1
                      rw [y1] at hz0
                      rw [y2] at hz1
                      generalize ((Dp.Fk Ls K (x : Int)).getD j (0, 0)).1 = u at *
                      generalize ((Dp.Fk Ls K (x : Int)).getD j (0, 0)).2 = v at *
                      have x1' := (hbl.cell (p := ⟨plb, (sx + j) * 2, none⟩) hplb).trans x1
                      have x2' := (hbl.cell (p := ⟨plb, (sx + j) * 2 + 1, none⟩) hplb).trans x2
                      have hsjI : (sx : Int) + (j : Int) < (T : Int) := by omega
                      have hjI : (j : Int) < (c : Int) := by omega
                      clear y1 y2 x1 x2
                      go_wp2_with fail
                      refine (fields_calls u v wr).mono ?_
                      rintro e w4 ⟨rfl, hbl4⟩
                      have hbl5 := hbl.trans (hbl4.mono hbl.size)
                      have n0 : w4.cell? ⟨g0, x, none⟩ = some (.slice (some ⟨b0, o0, none⟩) c c0') := (hbl5.cell (p := ⟨g0, x, none⟩) hg0W).trans Hr0.out
                      have n1 : w4.cell? ⟨g1, x, none⟩ = some (.slice (some ⟨b1, o1, none⟩) c c1') := (hbl5.cell (p := ⟨g1, x, none⟩) hg1W).trans Hr1.out
                      have z0 := (hbl5.cell (p := ⟨b0, o0 + j, none⟩) hb0).trans hz0
                      have z1 := (hbl5.cell (p := ⟨b1, o1 + j, none⟩) hb1).trans hz1
                      clear x1' x2' hbl4 hbl hz0 hz1
                      go_wp2
                      go_roundw
                      case rel =>
                        first
                          | exact ⟨j + 1, by omega, by go_num, hbl5⟩
                          | ((repeat apply Exists.intro); refine ⟨?_, rfl⟩; exact ⟨j + 1, by omega, by go_num, hbl5⟩)
                      case measure => simp [intOf]; omega
                    · go_wp2
                      go_roundw
                      case rel =>
                        first
                          | exact ⟨x + 1, by omega, by go_num, hbl⟩
                          | ((repeat apply Exists.intro); refine ⟨?_, rfl⟩; exact ⟨x + 1, by omega, by go_num, hbl⟩)
                      case measure => simp [intOf]; omega
                · go_wp2
                  go_ret
                  exact ⟨rfl, HWW.out.trans (hbl.mono HWW.out.size)⟩
  · go_wp2
    go_ret
    exact ⟨rfl, Below.refl _ _⟩

end Go.Proofs.Qxb6601966a
