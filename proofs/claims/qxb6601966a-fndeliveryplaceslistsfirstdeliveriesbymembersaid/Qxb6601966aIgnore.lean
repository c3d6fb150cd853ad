/-
  FnDeliveryPlacesIgnoreRedeliveries: the walk.
-/
import Derived.Test.Qxb6601966aDpHelp
namespace Go.Proofs.Qxb6601966a
open Go Go.RowKit

/-- What the walk is told of the input. -/
structure DIn (w : World) (am ad : Option Addr) (K D : Nat) (dl : List Inn) (mz : List Int) : Prop where
  k : K = mz.length
  d : D = dl.length
  m : RdL w.heap.size w am mz
  am : am = none → mz = []
  dr : DRd w.heap.size w ad dl
  ad : ad = none → dl = []
  nil : ∀ j, (dl.getD j d0).a = none → (dl.getD j d0).zs = []
  len : ∀ j, (dl.getD j d0).zs.length ≤ maxLen
  km : K ≤ maxLen
  dm : D ≤ maxLen

theorem RdL.src {B : Nat} {w : World} {a : Option Addr} {zs : List Int} (h : RdL B w a zs) (hp : 0 < zs.length) : ∃ b off, a = some ⟨b, off, none⟩ ∧ ∀ i, i < zs.length → w.cell? ⟨b, off + i, none⟩ = some (.int .i64 (zs.getD i 0)) := by
  obtain ⟨b, off, e, _, hc⟩ := h hp
  exact ⟨b, off, e, hc⟩
theorem RowAt.rdl {w : World} {b N B : Nat} {G : Nat → Int} {zs : List Int} (h : RowAt w b N G) (hb : b < B) (hl : zs.length ≤ N) (he : ∀ i, i < zs.length → G i = zs.getD i 0) : RdL B w (some ⟨b, 0, none⟩) zs := fun _ =>
  ⟨b, 0, rfl, hb, fun i hi => by rw [Nat.zero_add, ← he i hi]; exact (h i (by omega)).1⟩
theorem RdL.nil {B : Nat} {w : World} {a : Option Addr} : RdL B w a [] := fun h => by simp at h
theorem AllAt.lt {w : World} {b n : Nat} {z : Value} (h : AllAt w b n z) (hn : 0 < n) : b < w.heap.size := World.block_lt_of_cell? w _ (h 0 hn).1

/-- The members, copied where they are not nil. -/
def MembC (w wc : World) (v : Value) (K : Nat) (mz : List Int) : Prop := ∃ a c, v = .slice a K c ∧ RdL wc.heap.size wc a mz ∧ Below w.heap.size w wc
/-- The new row of rows. -/
def AgC (w wc : World) (v : Value) (D : Nat) : Prop := ∃ gb ag c, v = .slice ag D c ∧ (0 < D → ag = some ⟨gb, 0, none⟩ ∧ gb < wc.heap.size) ∧ AllAt wc gb D (.slice none 0 0) ∧ w.heap.size ≤ gb ∧ Below w.heap.size w wc

/-- While the logs are doubled. -/
structure AgL (W wr : World) (gb D t : Nat) (E : Nat → Inn) (dl : List Inn) : Prop where
  cell : ∀ j, j < D → wr.cell? ⟨gb, j, none⟩ = some (E j).v ∧ wr.frozen? ⟨gb, j, none⟩ = false
  rd : ∀ j, j < D → 0 < (E j).zs.length → ∃ b, (E j).a = some ⟨b, 0, none⟩ ∧ W.heap.size ≤ b ∧ b < wr.heap.size ∧ ∀ i, i < (E j).zs.length → wr.cell? ⟨b, i, none⟩ = some (.int .i64 ((E j).zs.getD i 0))
  zs : ∀ j, j < t → (E j).zs = (dl.getD j d0).zs ++ (dl.getD j d0).zs
  z0 : ∀ j, t ≤ j → E j = d0
  os : wr.os = W.os
  tape : wr.tape = W.tape
  output : wr.output = W.output
  size : W.heap.size ≤ wr.heap.size
  block : ∀ k, k < W.heap.size → k ≠ gb → wr.heap[k]? = W.heap[k]?

theorem AgL.start {W : World} {gb D : Nat} {dl : List Inn} (h : AllAt W gb D (.slice none 0 0)) : AgL W W gb D 0 (fun _ => d0) dl :=
  ⟨fun j hj => h j hj, fun j _ hp => by simp [d0] at hp, fun j hj => by omega, fun _ _ => rfl, rfl, rfl, rfl, Nat.le_refl _, fun _ _ _ => rfl⟩
theorem AgL.skip {W wr : World} {gb D t : Nat} {E : Nat → Inn} {dl : List Inn} (h : AgL W wr gb D t E dl) (hz : (dl.getD t d0).zs = []) : AgL W wr gb D (t + 1) E dl := by
  refine ⟨h.cell, h.rd, fun j hj => ?_, fun j hj => h.z0 j (by omega), h.os, h.tape, h.output, h.size, h.block⟩
  by_cases e : j = t
  · subst e
    rw [hz, h.z0 j (Nat.le_refl _)]
    rfl
  · exact h.zs j (by omega)
theorem AgL.step {W wr W5 : World} {gb D t : Nat} {E : Nat → Inn} {dl : List Inn} (h : AgL W wr gb D t E dl) (hgb : gb < W.heap.size) (ht : t < D) (hbl : Below wr.heap.size wr W5) (i : Inn)
    (hi : 0 < i.zs.length → ∃ b, i.a = some ⟨b, 0, none⟩ ∧ W.heap.size ≤ b ∧ b < W5.heap.size ∧ ∀ x, x < i.zs.length → W5.cell? ⟨b, x, none⟩ = some (.int .i64 (i.zs.getD x 0))) (hz : i.zs = (dl.getD t d0).zs ++ (dl.getD t d0).zs) :
    AgL W (W5.setCell ⟨gb, t, none⟩ i.v) gb D (t + 1) (fun j => if j = t then i else E j) dl := by
  have hgr : gb < wr.heap.size := Nat.lt_of_lt_of_le hgb h.size
  have hsz : (W5.setCell ⟨gb, t, none⟩ i.v).heap.size = W5.heap.size := World.size_setCell _ _ _
  refine ⟨fun j hj => ⟨?_, ?_⟩, fun j hj hp => ?_, fun j hj => ?_, fun j hj => ?_, hbl.os.trans h.os, hbl.tape.trans h.tape, hbl.output.trans h.output, ?_, fun k hk hne => ?_⟩
  · by_cases e : j = t
    · subst e
      rw [if_pos rfl]
      exact World.cell?_setCell_same _ _ _ ((hbl.cell (p := ⟨gb, j, none⟩) hgr).trans (h.cell j hj).1)
    · rw [if_neg e, World.cell?_setCell_other _ _ _ _ (fun e' => e (congrArg Addr.off e').symm)]
      exact (hbl.cell (p := ⟨gb, j, none⟩) hgr).trans (h.cell j hj).1
  · rw [World.frozen?_setCell]
    exact (hbl.frozen (p := ⟨gb, j, none⟩) hgr).trans (h.cell j hj).2
  · by_cases e : j = t
    · subst e
      simp only [if_pos] at hp ⊢
      obtain ⟨b, h1, h2, h3, h4⟩ := hi hp
      refine ⟨b, h1, h2, by rw [hsz]; exact h3, fun x hx => ?_⟩
      rw [World.cell?_setCell_other _ _ _ _ (fun e' => by have := congrArg Addr.block e'; simp at this; omega)]
      exact h4 x hx
    · simp only [if_neg e] at hp ⊢
      obtain ⟨b, h1, h2, h3, h4⟩ := h.rd j hj hp
      refine ⟨b, h1, h2, by rw [hsz]; have := hbl.size; omega, fun x hx => ?_⟩
      rw [World.cell?_setCell_other _ _ _ _ (fun e' => by have := congrArg Addr.block e'; simp at this; omega)]
      exact (hbl.cell (p := ⟨b, x, none⟩) h3).trans (h4 x hx)
  · by_cases e : j = t
    · subst e
      rw [if_pos rfl]
      exact hz
    · rw [if_neg e]
      exact h.zs j (by omega)
  · rw [if_neg (by omega)]
    exact h.z0 j (by omega)
  · rw [hsz]
    exact Nat.le_trans h.size hbl.size
  · rw [Below.heap_setCell _ _ _ _ (by simpa using hne), hbl.block k (Nat.lt_of_lt_of_le hk h.size)]
    exact h.block k hk hne
theorem AgL.below {W wr : World} {gb D t B : Nat} {E : Nat → Inn} {dl : List Inn} (h : AgL W wr gb D t E dl) (hB : B ≤ W.heap.size) (hg : B ≤ gb) : Below B W wr :=
  ⟨h.os, h.tape, h.output, h.size, fun k hk => h.block k (by omega) (by omega)⟩
/-- The doubled logs as a list. -/
def dl2 (D : Nat) (E : Nat → Inn) : List Inn := (List.range D).map E
theorem dl2_getD {D : Nat} {E : Nat → Inn} {j : Nat} (hj : j < D) : (dl2 D E).getD j d0 = E j := by simp [dl2, hj]
theorem AgL.drd {W wr : World} {gb D : Nat} {E : Nat → Inn} {dl : List Inn} {ag : Option Addr} (h : AgL W wr gb D D E dl) (hag : 0 < D → ag = some ⟨gb, 0, none⟩ ∧ gb < W.heap.size) : DRd wr.heap.size wr ag (dl2 D E) := by
  intro hp
  have hD : 0 < D := by simpa [dl2] using hp
  obtain ⟨h1, h2⟩ := hag hD
  refine ⟨gb, 0, h1, Nat.lt_of_lt_of_le h2 h.size, fun m hm => ?_⟩
  have hm' : m < D := by simpa [dl2] using hm
  rw [dl2_getD hm', Nat.zero_add]
  refine ⟨(h.cell m hm').1, fun hpos => ?_⟩
  obtain ⟨b, g1, _, g3, g4⟩ := h.rd m hm' hpos
  exact ⟨b, 0, g1, g3, fun i hi => by rw [Nat.zero_add]; exact g4 i hi⟩

theorem AgL.ok {W wr : World} {gb D n : Nat} {E : Nat → Inn} {dl : List Inn} {ms : List Nat} (h : AgL W wr gb D D E dl) (hD : D = dl.length) (hok : OkIn n dl ms) (hl : ∀ j, (dl.getD j d0).zs.length ≤ 131072) :
    OkIn n (dl2 D E) ms ∧ ∀ k, k < ms.length → LsOf (dl2 D E) ms k = LsOf dl ms k ++ LsOf dl ms k := by
  have hlen : (dl2 D E).length = D := by simp [dl2]
  have hz : ∀ j, j < D → ((dl2 D E).getD j d0).zs = (dl.getD j d0).zs ++ (dl.getD j d0).zs := fun j hj => by rw [dl2_getD hj]; exact h.zs j hj
  refine ⟨⟨fun k hk => ?_, fun j => ?_, hok.ml, hok.nl, by rw [hlen]; have := hok.dll; omega⟩, fun k hk => ?_⟩
  · obtain ⟨h1, h2⟩ := hok.mem k hk
    refine ⟨by rw [hlen]; omega, ?_⟩
    rw [hz _ (by omega)]
    intro x hx
    rcases List.mem_append.1 hx with hx | hx <;> exact h2 x hx
  · by_cases hj : j < D
    · rw [hz j hj, List.length_append]
      have := hl j
      omega
    · rw [List.getD_eq_getElem?_getD, List.getElem?_eq_none (by omega)]
      simp [d0]
  · exact hz _ (by have := (hok.mem k hk).1; omega)

/-- The places of the doubled logs are the places of the logs. -/
theorem places_same {w w' : World} {n K : Nat} {e : Ending} {Ls Ls2 : Nat → List Int} (hL : ∀ k, k < K → Ls2 k = Ls k ++ Ls k) (h : Places2 w n K Ls2 e w') : Places2 w n K Ls e w' := by
  have e1 : ∀ x, Dp.Fk Ls2 K x = Dp.Fk Ls K x := fun x => (Dp.Fk_congr x K (fun i hi => by rw [hL i hi]; exact Dp.idxOf_twice _ _)).symm
  have e2 : cN Ls2 K = cN Ls K := by funext x; unfold cN; rw [e1]
  unfold Places2 PlAt at h ⊢
  simp only [e1, e2] at h
  exact h

theorem PlAt.below {w w' : World} {plb n K B : Nat} {Ls : Nat → List Int} (h : PlAt w plb n Ls K) (hk : Below B w w') (hb : plb < B) : PlAt w' plb n Ls K := fun x j hx hj =>
  ⟨(hk.cell (p := ⟨plb, _, none⟩) hb).trans (h x j hx hj).1, (hk.cell (p := ⟨plb, _, none⟩) hb).trans (h x j hx hj).2⟩
theorem PlAt.both {w : World} {p1 p2 n K t : Nat} {Ls : Nat → List Int} (h1 : PlAt w p1 n Ls K) (h2 : PlAt w p2 n Ls K) (ht : t < Dp.S (cN Ls K) n) :
    ∃ u v, w.cell? ⟨p1, t * 2, none⟩ = some (.int .i64 u) ∧ w.cell? ⟨p1, t * 2 + 1, none⟩ = some (.int .i64 v) ∧ w.cell? ⟨p2, t * 2, none⟩ = some (.int .i64 u) ∧ w.cell? ⟨p2, t * 2 + 1, none⟩ = some (.int .i64 v) := by
  obtain ⟨x, j, hx, hj, rfl⟩ := Dp.S_cover (cN Ls K) n t ht
  exact ⟨_, _, (h1 x j hx hj).1, (h1 x j hx hj).2, (h2 x j hx hj).1, (h2 x j hx hj).2⟩

set_option maxRecDepth 100000 in
set_option maxHeartbeats 2000000 in
theorem ignore_main (n K D cm cd : Nat) (am ad : Option Addr) (dl : List Inn) (mz : List Int) (w : World) (hn : n ≤ 65536) (hK : K ≤ 131072) (hD : D ≤ 131072) (hin : DIn w am ad K D dl mz) :
    Calls Try.prog 8 #[.int .i64 (n : Int), .slice am K cm, .slice ad D cd] w fun e w' => e = .returned (.bool true) ∧ Below w.heap.size w w' := by
  have HIn := hide3 hin
  have hby := hide3 (bytes_ignore (n : Int) am ad K cm D cd dl w hin.km hin.d hin.dm hin.dr hin.len)
  have hib := hide3 (inner_calls ad (8 * K + 24 * D) D cd dl w (by omega) hin.d hD hin.dr hin.len)
  have q22 : ∀ (w : World) (a : Option Addr) (n c n' c' : Nat), (binOp .neq 22 (.slice a n c) (.slice none n' c')).run Try.prog w = .ok (.bool (!a.isNone)) w := fun w a n c n' c' => run_neq_slice_nil_any w _ _ a n c n' c' Try.underlying22
  have q40 : ∀ (w : World) (a : Option Addr) (n c n' c' : Nat), (binOp .neq 40 (.slice a n c) (.slice none n' c')).run Try.prog w = .ok (.bool (!a.isNone)) w := fun w a n c n' c' => run_neq_slice_nil_any w _ _ a n c n' c' Try.underlying40
  have e22 : ∀ (w : World) (a : Option Addr) (n c n' c' : Nat), (binOp .eql 22 (.slice a n c) (.slice none n' c')).run Try.prog w = .ok (.bool a.isNone) w := fun w a n c n' c' => Lib.run_eql_slice_nil w _ _ a n c n' c' Try.underlying22
  clear hin
  go_enter Try.func8, Try.ntmps8
  go_wp2_with fail
  refine hby.out.mono ?_
  rintro e w1 ⟨⟨b, rfl⟩, rfl⟩
  cases b
  · go_wp2
    go_ret
    exact ⟨rfl, Below.refl _ _⟩
  go_wp2_with fail
  have ek : (8 : Int) * (K : Int) + 24 * (D : Int) = ((8 * K + 24 * D : Nat) : Int) := by omega
  rw [ek]
  refine hib.out.mono ?_
  rintro e w2 ⟨⟨r, rfl, hr⟩, rfl⟩
  clear hby hib ek
  by_cases hr0 : r ≤ 1048576
  · have hlen := hr hr0
    have hlen' : ∀ j, (dl.getD j d0).zs.length ≤ 131072 := by
      intro j
      by_cases hj : j < dl.length
      · exact hlen j hj
      · rw [List.getD_eq_getElem?_getD, List.getElem?_eq_none (by omega)]
        simp [d0]
    have hpr := hide3 (premise_calls n 524288 am ad K cm D cd dl mz w2 (by omega) HIn.out.k hK HIn.out.m HIn.out.d HIn.out.dr (fun j => by have := hlen' j; omega))
    have Hlen := hide3 hlen'
    clear hlen hr hlen'
    go_wp2_with fail
    refine hpr.out.mono ?_
    rintro e w3 ⟨⟨b, rfl, hb⟩, rfl⟩
    cases b
    · go_wp2
      go_ret
      exact ⟨rfl, Below.refl _ _⟩
    obtain ⟨ms, hms, hmsl, hok⟩ := (hb rfl).nats (fun j => by have := Hlen.out j; omega) hn (by have := HIn.out.k; omega) (by have := HIn.out.d; omega)
    have HOk := hide3 hok
    have HMs := hide3 hms
    have HMl := hide3 hmsl
    clear hb hpr hok hms hmsl
    go_upto_if 59 with fail
    go_cut [1] (fun v wc => MembC w3 wc v K mz)
    case first =>
      cases am with
      | none =>
        have hz := HIn.out.am rfl
        go_wp2
        go_meet
        exact ⟨none, cm, rfl, hz ▸ RdL.nil, Below.refl _ _⟩
      | some x =>
        obtain ⟨W1, W2, hmk, hcp, hR2, hB2⟩ := memb_eq w3 x cm mz HIn.out.m (by have := HIn.out.k; omega)
        rw [← HIn.out.k] at hmk hcp
        go_wp2
        go_meet
        exact ⟨_, _, rfl, hR2, hB2⟩
    case rest =>
      obtain ⟨am', cm', rfl, hRm, hBc⟩ := hcut
      obtain ⟨wm, rfl⟩ : ∃ wm, wm = wc := ⟨_, rfl⟩
      have HRm := hide3 hRm
      have HBc := hide3 hBc
      clear hRm hBc
      go_upto_if 68 with fail
      go_cut [8] (fun v wc => AgC wm wc v D)
      case first =>
        cases ad with
        | none =>
          have hz := HIn.out.ad rfl
          have hD0 : D = 0 := by rw [HIn.out.d, hz]; rfl
          subst hD0
          go_wp2
          go_meet
          exact ⟨wm.heap.size, none, 0, rfl, fun h => by omega, fun x hx => by omega, Nat.le_refl _, Below.refl _ _⟩
        | some x =>
          obtain ⟨W1, hmk, hA1, hB1, hS1⟩ := make_eq 40 22 (.slice none 0 0) 24 rfl Try.underlying40 i22 wm D (by omega) (by unfold maxLen; omega)
          have HA1 := hide3 hA1
          have HB1 := hide3 hB1
          have HS1 := hide3 hS1
          clear hA1 hB1 hS1
          go_wp2
          go_meet
          exact ⟨wm.heap.size, _, _, rfl, fun _ => ⟨rfl, by have := HS1.out; omega⟩, HA1.out, Nat.le_refl _, HB1.out⟩
      case rest =>
        obtain ⟨gb, ag, cg, rfl, hag, hA0, hgb, hBd⟩ := hcut
        obtain ⟨wd, rfl⟩ : ∃ wd, wd = wc := ⟨_, rfl⟩
        have Hag := hide3 hag
        have HA0 := hide3 hA0
        have HBd := hide3 hBd
        have HBw := hide3 (HBc.out.trans (hBd.mono HBc.out.size))
        have hwd := HBc.out.size
        clear hag hA0 hBd
        go_wp2_with fail
        go_loopw [9] (fun i wr => ∃ (t : Nat) (E : Nat → Inn), t ≤ D ∧ i = .int .i64 t ∧ AgL wd wr gb D t E dl) (fun i _ => D - (intOf i).toNat)
        case atStart => exact ⟨0, fun _ => d0, Nat.zero_le _, rfl, AgL.start HA0.out⟩
        case round =>
          obtain ⟨t, E, ht, rfl, hL⟩ := hrel
          have HL := hide3 hL
          clear hL
          by_cases hlt : t < D
          · have hbl0 : Below w3.heap.size w3 wr := HBw.out.trans (HL.out.below (by have := HBw.out.size; omega) (by omega))
            obtain ⟨b, off, ra, hb, hc, hr⟩ := (HIn.out.dr.below hbl0).at (m := t) (by have := HIn.out.d; omega)
            subst ra
            obtain ⟨h1, h2⟩ := Hag.out (by omega)
            subst h1
            have hnil := HIn.out.nil t
            have hlen := Hlen.out t
            have hdd := HIn.out.d
            have hltI : (t : Int) < (D : Int) := by omega
            obtain ⟨zs, hzs⟩ : ∃ zs, zs = (dl.getD t d0).zs := ⟨_, rfl⟩
            rw [← hzs] at hc hr hnil hlen
            have Hzs := hide3 hzs
            generalize (dl.getD t d0).a = ai at *
            generalize (dl.getD t d0).c = ci at *
            clear hzs hdd hbl0
            cases ai with
            | none =>
              have hz := hnil rfl
              have HLs := hide3 (HL.out.skip (by rw [← Hzs.out]; exact hz))
              clear hnil hr
              rw [hz] at hc
              go_wp2
              go_roundw
              case rel => exact ⟨t + 1, E, by omega, by go_num, HLs.out⟩
              case measure => simp [intOf]; omega
            | some x =>
              clear hnil
              obtain ⟨gc1, gc2⟩ := HL.out.cell t hlt
              have hgw : gb < wr.heap.size := Nat.lt_of_lt_of_le h2 HL.out.size
              by_cases hp : 0 < zs.length
              · obtain ⟨M, W1, W2, W3, hM, hmk, hcp1, hcp2, hcell, hB3, hS3⟩ := twice_eq wr x ci zs (hr.mono (by have := HBw.out.size; have := HL.out.size; omega)) hp hlen
                have HLs := hide3 (HL.out.step (W5 := W3) h2 hlt hB3 ⟨some ⟨wr.heap.size, 0, none⟩, M, zs ++ zs⟩ (fun _ => ⟨wr.heap.size, rfl, HL.out.size, by omega, fun i hi => hcell i (by simp at hi; omega)⟩) (by show zs ++ zs = _; rw [Hzs.out]))
                have ev : (Inn.mk (some ⟨wr.heap.size, 0, none⟩) M (zs ++ zs)).v = .slice (some ⟨wr.heap.size, 0, none⟩) M M := by
                  unfold Inn.v
                  rw [List.length_append, ← Nat.two_mul, ← hM]
                rw [ev] at HLs
                have g1 : W3.cell? ⟨gb, t, none⟩ = some (E t).v := (hB3.cell (p := ⟨gb, t, none⟩) hgw).trans gc1
                have g2 : W3.frozen? ⟨gb, t, none⟩ = false := (hB3.frozen (p := ⟨gb, t, none⟩) hgw).trans gc2
                have hML : ¬ M = zs.length := by omega
                have hMLI : (zs.length : Int) ≤ (M : Int) := by omega
                have hlI : (zs.length : Int) ≤ 131072 := by omega
                clear hM hcell hB3 hS3 ev hr gc1 gc2 hgw
                generalize (E t).v = ev0 at *
                generalize zs.length = L at *
                go_wp2
                go_roundw
                case rel => exact ⟨t + 1, _, by omega, by go_num, HLs.out⟩
                case measure => simp [intOf]; omega
              · obtain rfl : zs = [] := List.eq_nil_of_length_eq_zero (by omega)
                obtain ⟨W1, hmk, _, hB1, hS1⟩ := make_eq 22 3 (.int .i64 0) 8 rfl Try.underlying22 i3 wr 0 (by omega) (by unfold maxLen; omega)
                have hcp : ∀ ty, (Builtin.copy_ #[22, 22] ty #[.slice (some ⟨wr.heap.size, 0, none⟩) 0 0, .slice (some x) 0 ci]).run Try.prog W1 = .ok (.int .i64 0) W1 := fun ty => run_copy_none (P := Try.prog) W1 22 22 ty 3 _ _ 0 0 0 ci Try.underlying22 (by kernel_rfl) (by simp)
                have HLs := hide3 (HL.out.step (W5 := W1) h2 hlt hB1 ⟨some ⟨wr.heap.size, 0, none⟩, 0, []⟩ (fun hp => by simp at hp) (by rw [← Hzs.out]; rfl))
                have ev : (Inn.mk (some ⟨wr.heap.size, 0, none⟩) 0 []).v = .slice (some ⟨wr.heap.size, 0, none⟩) 0 0 := rfl
                rw [ev] at HLs
                have g1 : W1.cell? ⟨gb, t, none⟩ = some (E t).v := (hB1.cell (p := ⟨gb, t, none⟩) hgw).trans gc1
                have g2 : W1.frozen? ⟨gb, t, none⟩ = false := (hB1.frozen (p := ⟨gb, t, none⟩) hgw).trans gc2
                rw [List.length_nil] at hc
                rw [Int.natCast_zero] at hmk
                clear hB1 hS1 ev hr gc1 gc2 hgw hlen hp
                generalize (E t).v = ev0 at *
                go_wp2
                go_roundw
                case rel => exact ⟨t + 1, _, by omega, by go_num, HLs.out⟩
                case measure => simp [intOf]; omega
          · obtain rfl : D = t := by omega
            obtain ⟨cs, hm62⟩ := make62 n hn
            have hbl0 : Below w3.heap.size w3 wr := HBw.out.trans (HL.out.below (by have := HBw.out.size; omega) (by omega))
            have HW0 := hide3 hbl0
            have hblm : Below wm.heap.size wm wr := HBd.out.trans (HL.out.below HBd.out.size hgb)
            have HRm0 := hide3 ((HRm.out.below hblm).mono hblm.size)
            have HD0 := hide3 ((HIn.out.dr.below hbl0).mono hbl0.size)
            have HD2 := hide3 (HL.out.drd Hag.out)
            obtain ⟨ok2, ls2⟩ := HL.out.ok HIn.out.d HOk.out Hlen.out
            have HOk2 := hide3 ok2
            have HLs2 := hide3 ls2
            have hkm : K = ms.length := by rw [HMl.out]; exact HIn.out.k
            have HKm := hide3 hkm
            have hdl : D = dl.length := HIn.out.d
            have HDl := hide3 hdl
            have HDl2 : Hid (D = (dl2 D E).length) := hide3 (by simp [dl2])
            clear hbl0 hblm ok2 ls2 hkm hdl hlt
            go_wp2_with fail
            obtain ⟨wa, hwa⟩ : ∃ wa, wa = wr.alloc (.cells cs 99) := ⟨_, rfl⟩
            rw [← hwa]
            have bl1 : Below wr.heap.size wr wa := by rw [hwa]; exact (Below.refl _ _).alloc (Nat.le_refl _) _
            refine (newh_calls _ am' ad n n K cm' D cd wa).mono ?_
            rintro e wb ⟨rfl, g6, g11, g12, hsb, bl2⟩
            have bl3 : Below wr.heap.size wr wb := bl1.trans (bl2.mono bl1.size)
            have hH : HC wb wb.heap.size wa.heap.size n cd cm' n ad am' (some ⟨wr.heap.size, 0, none⟩) dl ms := by
              refine ⟨?_, ?_, g12, (HD0.out.below bl3).mono bl3.size, ?_, by omega⟩
              · rw [← HDl.out]; exact g6
              · rw [← HKm.out]; exact g11
              · rw [← HMs.out]; exact (HRm0.out.below bl3).mono bl3.size
            have hcall := hide3 (places2_calls wa.heap.size n cd cm' n ad am' _ dl ms wb hH HOk.out)
            rw [← HKm.out] at hcall
            have Hbl3 := hide3 bl3
            clear hH bl1 bl2 bl3 g6 g11 g12 hsb hwa
            go_wp2_with fail
            refine hcall.out.mono ?_
            rintro e we ⟨pb1, pl1, rfl, hR1, hP1, hpb1, hpl1, hbl4⟩
            obtain ⟨Ls, hLs⟩ : ∃ Ls, Ls = LsOf dl ms := ⟨_, rfl⟩
            rw [← hLs] at hR1 hP1 ⊢
            have HLs := hide3 hLs
            obtain ⟨T, hT⟩ : ∃ T, T = Dp.S (cN Ls K) n := ⟨_, rfl⟩
            rw [← hT]
            have HT := hide3 hT
            have Hble := hide3 (Hbl3.out.trans (hbl4.mono Hbl3.out.size))
            have HR1 := hide3 hR1
            have HP1 := hide3 hP1
            clear hcall hLs hT hR1 hP1 hbl4
            go_wp2_with fail
            obtain ⟨wf, hwf⟩ : ∃ wf, wf = we.alloc (.cells cs 99) := ⟨_, rfl⟩
            rw [← hwf]
            have bl1 : Below we.heap.size we wf := by rw [hwf]; exact (Below.refl _ _).alloc (Nat.le_refl _) _
            refine (newh_calls _ am' ag n n K cm' D cg wf).mono ?_
            rintro e wg ⟨rfl, g6, g11, g12, hsb, bl2⟩
            have bl3 : Below we.heap.size we wg := bl1.trans (bl2.mono bl1.size)
            have blr : Below wr.heap.size wr wg := Hble.out.trans (bl3.mono Hble.out.size)
            have hH : HC wg wg.heap.size wf.heap.size n cg cm' n ag am' (some ⟨we.heap.size, 0, none⟩) (dl2 D E) ms := by
              refine ⟨?_, ?_, g12, (HD2.out.below blr).mono blr.size, ?_, by omega⟩
              · rw [← HDl2.out]; exact g6
              · rw [← HKm.out]; exact g11
              · rw [← HMs.out]; exact (HRm0.out.below blr).mono blr.size
            have hcall := hide3 ((places2_calls wf.heap.size n cg cm' n ag am' _ (dl2 D E) ms wg hH HOk2.out).mono (fun e w' h => places_same HLs2.out h))
            rw [← HKm.out, ← HLs.out] at hcall
            have Hbl3 := hide3 bl3
            have Hblr := hide3 blr
            clear hH bl1 bl2 bl3 blr g6 g11 g12 hsb hwf
            go_wp2_with fail
            refine hcall.out.mono ?_
            rintro e W ⟨pb2, pl2, rfl, hR2, hP2, hpb2, hpl2, hbl4⟩
            rw [← HT.out]
            have HW := hide3 (HW0.out.trans ((Hblr.out.trans (hbl4.mono Hblr.out.size)).mono HW0.out.size))
            have blW : Below we.heap.size we W := Hbl3.out.trans (hbl4.mono Hbl3.out.size)
            have hpb1' : pb1 < W.heap.size := Nat.lt_of_lt_of_le hpb1 blW.size
            have hpl1' : pl1 < W.heap.size := Nat.lt_of_lt_of_le hpl1 blW.size
            have HR1' := hide3 (HR1.out.below blW hpb1)
            have HP1' := hide3 (HP1.out.below blW hpl1)
            have HR2 := hide3 hR2
            have HP2 := hide3 hP2
            have hTb : T ≤ 8589934592 := by rw [HT.out]; exact S_small Ls hK hn (Nat.le_refl _)
            clear hcall hR2 hP2 hbl4 blW HR1 HP1 hpb1 hpl1 hm62
            go_wp2_with fail
            go_loopw [16] (fun i wr => ∃ t : Nat, t ≤ n + 1 ∧ i = .int .i64 t ∧ Below W.heap.size W wr) (fun i _ => n + 1 - (intOf i).toNat)
            case atStart => exact ⟨0, Nat.zero_le _, rfl, Below.refl _ _⟩
            case round =>
              obtain ⟨t, ht, rfl, hbl⟩ := hrel
              by_cases hlt2 : t < n + 1
              · have c1 := (HR1'.out.below hbl hpb1' t hlt2).1
                have c2 := (HR2.out.below hbl hpb2 t hlt2).1
                have hltI : (t : Int) < (n : Int) + 1 := by omega
                have c1 : wr.cell? ⟨pb1, t, none⟩ = some (.int .i64 (Dp.S (cN Ls K) t : Int)) := c1
                have c2 : wr.cell? ⟨pb2, t, none⟩ = some (.int .i64 (Dp.S (cN Ls K) t : Int)) := c2
                generalize Dp.S (cN Ls K) t = v at *
                go_wp2_with fail
                go_quiet (fail)
                go_wp2
                go_roundw
                case rel => exact ⟨t + 1, by omega, by go_num, ⟨hbl.os, hbl.tape, hbl.output, hbl.size, hbl.block⟩⟩
                case measure => simp [intOf]; omega
              · obtain rfl : t = n + 1 := by omega
                go_wp2_with fail
                go_loopw [17] (fun i wr => ∃ t : Nat, t ≤ T ∧ i = .int .i64 t ∧ Below W.heap.size W wr) (fun i _ => T - (intOf i).toNat)
                case atStart => exact ⟨0, Nat.zero_le _, rfl, hbl⟩
                case round =>
                  clear hbl
                  obtain ⟨t, ht, rfl, hbl⟩ := hrel
                  by_cases hlt3 : t < T
                  · obtain ⟨u, v, d1, d2, d3, d4⟩ := (HP1'.out.below hbl hpl1').both (HP2.out.below hbl hpl2) (t := t) (by rw [← HT.out]; exact hlt3)
                    have hltI : (t : Int) < (T : Int) := by omega
                    go_wp2_with fail
                    refine (fields_calls u v wr).mono ?_
                    rintro e w4 ⟨rfl, hbl4⟩
                    have d3 := (hbl4.cell (p := ⟨pl2, t * 2, none⟩) (Nat.lt_of_lt_of_le hpl2 hbl.size)).trans d3
                    have d4 := (hbl4.cell (p := ⟨pl2, t * 2 + 1, none⟩) (Nat.lt_of_lt_of_le hpl2 hbl.size)).trans d4
                    have hbl5 := hbl.trans (hbl4.mono hbl.size)
                    clear d1 d2 hbl4 hbl
                    go_wp2_with fail
                    refine (fields_calls u v w4).mono ?_
                    rintro e w5 ⟨rfl, hbl6⟩
                    have hbl7 := hbl5.trans (hbl6.mono hbl5.size)
                    clear hbl5 hbl6 d3 d4
                    go_wp2
                    go_roundw
                    case rel =>
                      first
                        | exact ⟨t + 1, by omega, by go_num, hbl7⟩
                        | ((repeat apply Exists.intro); refine ⟨?_, rfl⟩; exact ⟨t + 1, by omega, by go_num, hbl7⟩)
                    case measure => simp [intOf]; omega
                  · go_wp2
                    go_ret
                    exact ⟨rfl, HW.out.trans (hbl.mono HW.out.size)⟩
  · go_wp2
    go_ret
    exact ⟨rfl, Below.refl _ _⟩

end Go.Proofs.Qxb6601966a
