/-
  FnSenderMessagesAddRecordsExactly: the law's own walk.
-/
import Derived.Test.Qxb6601966aScriptLaw
import Derived.Test.Qxb6601966aPlain2
import Derived.Test.Qxb6601966aClone
import Derived.Deep.DeepCutAuto
namespace Go.Proofs.Qxb6601966a
open Go Go.RowKit Go.Maps

theorem hide {p : Prop} (h : p) : Hid p := h

/-- Where there is an element, the numbers zs lie at the address a. -/
def Rd (k : IntKind) (w : World) (a : Option Addr) (zs : List Int) : Prop :=
  0 < zs.length → ∃ b off, a = some ⟨b, off, none⟩ ∧ b < w.heap.size ∧ ∀ i, i < zs.length → w.cell? ⟨b, off + i, none⟩ = some (.int k (zs.getD i 0))

theorem Rd.later {k : IntKind} {w w' : World} {a : Option Addr} {zs : List Int} (h : Rd k w a zs) (hb : Below w.heap.size w w') {i : Nat} (hi : i < zs.length) :
    ∃ b off, a = some ⟨b, off, none⟩ ∧ w'.cell? ⟨b, off + i, none⟩ = some (.int k (zs.getD i 0)) := by
  obtain ⟨b, off, e, hlt, hc⟩ := h (by omega)
  exact ⟨b, off, e, (hb.cell (by exact hlt)).trans (hc i hi)⟩

theorem Rd.world {k : IntKind} {w w' : World} {a : Option Addr} {zs : List Int} (h : Rd k w a zs) (hb : Below w.heap.size w w') : Rd k w' a zs := by
  intro hp
  obtain ⟨b, off, e, hlt, hc⟩ := h hp
  have := hb.size
  exact ⟨b, off, e, by omega, fun i hi => (hb.cell (by exact hlt)).trans (hc i hi)⟩

theorem Rd.reads {k : IntKind} {w : World} {a : Option Addr} {zs : List Int} (h : Rd k w a zs) (c : Nat) : Reads k w (.slice a zs.length c) zs := ⟨a, c, rfl, h⟩

theorem wf_getD {k : IntKind} {zs : List Int} (h : ∀ n ∈ zs, (Lit.int k n).wf = true) {i : Nat} (hi : i < zs.length) : (Lit.int k (zs.getD i 0)).wf = true := by
  rw [List.getD_eq_getElem?_getD, List.getElem?_eq_getElem hi, Option.getD_some]
  exact h _ (List.getElem_mem _)

/-- ZZSenderMessagesAdd, at a table given by its fields. -/
theorem zzadd_for (base : Nat) (bn : List Int) (D : DataW Unit) (t : Nat) (ht : t = bn.length) (mm : Option Nat) (named : Nat) (n i : Int) (h1 : 1 ≤ n) (h3 : n < 18446744073709551616) (hi : (Lit.int .i64 i).wf = true) (hl : t ≤ 1000000) (hN : named ≤ 1000000) (hsz : Maps.size D ≤ 1000000)
    (s : List Int × DataW Unit) (hs : s = Tab.add (bn, D) named n i) (a : Option Addr) (c : Nat) (w : World) (hrow : w.ownsRow base 3 1 (.slice a t c) t (bn.map (Value.int .i64))) (hmap : IsMb base w (.map mm) D) (hbase : base ≤ w.heap.size) :
    Calls Try.prog 11 #[.slice a t c, .map mm, .int .i64 (named : Int), .int .u64 n, .int .i64 i] w fun e w' =>
      ∃ a' c' mm', e = .returned (.tuple #[.slice a' s.1.length c', .map mm', .int .i64 ((named : Int) + 1)]) ∧
      w'.ownsRow base 3 1 (.slice a' s.1.length c') s.1.length (s.1.map (Value.int .i64)) ∧ IsMb base w' (.map mm') s.2 ∧ Below base w w' := by
  subst ht hs
  refine (zzadd_calls base a c (.map mm) named n i (bn, D) w hrow hmap hbase h1 h3 hi hl hN hsz).mono ?_
  rintro e w' ⟨a', c', m', rfl, h4, h5, h6⟩
  obtain ⟨mm', rfl⟩ := h5.shape
  exact ⟨a', c', mm', rfl, h4, h5, h6⟩

set_option maxRecDepth 100000 in
set_option maxHeartbeats 4000000 in
theorem records_main (a0 a1 a2 : Option Addr) (c0 c1 c2 : Nat) (bn ks vs : List Int) (N : Nat) (n i : Int) (w : World) (h0 : Rd .i64 w a0 bn) (h1 : Rd .u64 w a1 ks) (h2 : Rd .i64 w a2 vs)
    (ha0 : a0 = none → bn = []) (ha1 : a1 = none → ks = []) (L0 L1 : Nat) (e0 : L0 = bn.length) (e1 : L1 = ks.length) (e2 : L1 = vs.length) (hsum : L0 + L1 + L1 ≤ 131072) (hn0 : 1 ≤ n) (hn1 : n < 18446744073709551616)
    (hi0 : 0 ≤ i) (hi1 : (Lit.int .i64 i).wf = true) (hN : (N : Int) ≤ 9223372036854775807) (w1 : ∀ n ∈ ks, (Lit.int .u64 n).wf = true) (w2 : ∀ n ∈ vs, (Lit.int .i64 n).wf = true) :
    Calls Try.prog 3 #[.slice a0 L0 c0, .slice a1 L1 c1, .slice a2 L1 c2, .int .i64 (N : Int), .int .u64 n, .int .i64 i] w fun e w' => e = .returned (.bool true) ∧ Below w.heap.size w w' := by
  have hmm := fun q n w => run_makeMap_hint (P := Try.prog) Try.underlying26 q n w
  have q23 : ∀ (w : World) (a : Option Addr) (n c n' c' : Nat), (binOp .neq 23 (.slice a n c) (.slice none n' c')).run Try.prog w = .ok (.bool (!a.isNone)) w := fun w a n c n' c' => run_neq_slice_nil_any w _ _ a n c n' c' Try.underlying23
  have hby := bytes_records a0 a1 a2 L0 c0 L1 c1 L1 c2 N n i w (by unfold maxLen; omega) (by unfold maxLen; omega) (by unfold maxLen; omega)
  have HA0 : Hid (a0 = none → bn = []) := ha0
  have HA1 : Hid (a1 = none → ks = []) := ha1
  have E0 : Hid (L0 = bn.length) := e0
  have E1 : Hid (L1 = ks.length) := e1
  have E2 : Hid (L1 = vs.length) := e2
  have W1 : Hid (∀ n ∈ ks, (Lit.int .u64 n).wf = true) := w1
  have W2 : Hid (∀ n ∈ vs, (Lit.int .i64 n).wf = true) := w2
  clear ha0 ha1 e0 e1 e2 w1 w2
  have hnb : (n == 0) = false := by rw [beq_eq_false_iff_ne]; omega
  go_enter Try.func3, Try.ntmps3
  go_wp2_with (go_at_call 9; go_must (refine hby.mono ?_); rintro e w2 ⟨⟨b, rfl⟩, rfl⟩; cases b)
  · go_ret
    exact ⟨rfl, Below.refl _ _⟩
  clear hby
  go_loop [13, 14] (fun p k => ∃ t : Nat, t ≤ L0 ∧ k = .int .i64 t ∧ p = .int .i64 (Tab.cnt (bn.take t) : Nat) ∧ ∀ j, j < t → -1 ≤ bn.getD j 0) (fun _ k => L0 - (intOf k).toNat)
  case atStart => exact ⟨0, Nat.zero_le _, rfl, rfl, fun j hj => by omega⟩
  case round =>
    obtain ⟨t, ht, rfl, rfl, hlow⟩ := hrel
    have HLow : Hid (∀ j, j < t → -1 ≤ bn.getD j 0) := hlow
    clear hlow
    have hcb : Tab.cnt (bn.take t) ≤ t := Nat.le_trans (Tab.cnt_le _) (List.length_take_le _ _)
    by_cases hlt : t < L0
    · have hlt' : t < bn.length := by have := E0.out; omega
      obtain ⟨b, off, rfl, hc⟩ := h0.later (Below.refl _ _) hlt'
      obtain ⟨x, hx⟩ : ∃ x, x = bn.getD t 0 := ⟨_, rfl⟩
      rw [← hx] at hc
      have hct := Tab.cnt_take bn t hlt'
      rw [← hx] at hct
      have HC : Hid (Tab.cnt (bn.take (t + 1)) = Tab.cnt (bn.take t) + if 0 ≤ x then 1 else 0) := hct
      have HX : Hid (x = bn.getD t 0) := hx
      clear hct hx
      have hlow2 : -1 ≤ x → ∀ j, j < t + 1 → -1 ≤ bn.getD j 0 := by
        intro hx j hj
        by_cases ej : j = t
        · subst ej; rw [← HX.out]; exact hx
        · exact HLow.out j (by omega)
      have HL2 : Hid (-1 ≤ x → ∀ j, j < t + 1 → -1 ≤ bn.getD j 0) := hlow2
      clear hlow2
      by_cases hx1 : x < -1
      · go_wp2
        go_ret
        exact ⟨rfl, Below.refl _ _⟩
      · by_cases hx0 : 0 ≤ x
        · go_wp2
          go_round
          case rel => exact ⟨t + 1, by omega, by go_num, by rw [HC.out, if_pos hx0]; go_num, HL2.out (by omega)⟩
          case measure => simp [intOf]; omega
        · go_wp2
          go_round
          case rel => exact ⟨t + 1, by omega, by go_num, by rw [HC.out, if_neg hx0]; go_num, HL2.out (by omega)⟩
          case measure => simp [intOf]; omega
    · obtain rfl : t = L0 := by omega
      have HT : Hid (bn.take t = bn) := by have := E0.out; exact List.take_of_length_le (by omega)
      rw [HT.out] at hcb ⊢
      clear HT
      go_upto_if 93 with fail
      go_cut [15] (fun m wc => ∃ mm, m = .map mm ∧ IsMb w2.heap.size wc (.map mm) (.map []) ∧ (0 < L1 → mm ≠ none) ∧ Below w2.heap.size w2 wc)
      case first =>
        cases a1 with
        | none =>
          have hz : L1 = 0 := by have h := HA1.out rfl; have h' := E1.out; rw [h] at h'; simpa using h'
          subst hz
          go_wp2
          go_meet
          exact ⟨none, rfl, .inl ⟨rfl, rfl⟩, fun hp => absurd hp (Nat.lt_irrefl 0), Below.refl _ _⟩
        | some x =>
          go_wp2
          go_meet
          exact ⟨some w2.heap.size, rfl, .inr ⟨_, rfl, Nat.le_refl _, World.ownsMap_made _ _ _ _⟩, by simp, (Below.refl _ _).alloc (Nat.le_refl _) _⟩
      case rest =>
        obtain ⟨mm, rfl, hmap, hmn, hbel⟩ := hcut
        have HLow2 : Hid (∀ j, j < bn.length → -1 ≤ bn.getD j 0) := by have h := E0.out; rw [← h]; exact HLow.out
        clear HLow
        go_wp2_with fail
        go_loopw [16] (fun k wr => ∃ u : Nat, u ≤ L1 ∧ k = .int .i64 u ∧ IsMb w2.heap.size wr (.map mm) (Tab.fill ks vs u) ∧ Tab.FineB t ks vs u ∧ Below w2.heap.size w2 wr) (fun k _ => L1 - (intOf k).toNat)
        case atStart => exact ⟨0, Nat.zero_le _, rfl, hmap, fun j hj => by omega, hbel⟩
        case round =>
          clear hmap hbel
          obtain ⟨u, hu, rfl, hmap, hfine, hbel⟩ := hrel
          have HF : Hid (Tab.FineB t ks vs u) := hfine
          clear hfine
          by_cases hlt2 : u < L1
          · obtain ⟨b1, o1, ra1, hc1⟩ := h1.later hbel (i := u) (by have := E1.out; omega)
            obtain ⟨b2, o2, ra2, hc2⟩ := h2.later hbel (i := u) (by have := E2.out; omega)
            subst ra1 ra2
            obtain ⟨x, hx⟩ : ∃ x, x = ks.getD u 0 := ⟨_, rfl⟩
            obtain ⟨y, hy⟩ : ∃ y, y = vs.getD u 0 := ⟨_, rfl⟩
            have hwx := bounds_u64 (wf_getD W1.out (i := u) (by have := E1.out; omega))
            have hwy := wf_getD W2.out (i := u) (by have := E2.out; omega)
            rw [← hx] at hc1 hwx
            rw [← hy] at hc2 hwy
            have HX : Hid (x = ks.getD u 0) := hx
            have HY : Hid (y = vs.getD u 0) := hy
            clear hx hy
            have hlook := hmap.isM.look (n := x) hwx.1 (by omega)
            by_cases hx1 : x ≤ t
            · go_wp2
              go_ret
              exact ⟨rfl, hbel⟩
            · by_cases hy1 : y < 0
              · go_wp2
                go_ret
                exact ⟨rfl, hbel⟩
              · cases hh : Tab.hasK (Tab.fill ks vs u) x
                · rw [hh] at hlook
                  rcases hmap with ⟨hmm0, _⟩ | ⟨b, hmb, hbb, ho⟩
                  · have := hmn (by omega)
                    simp at hmm0
                    exact absurd hmm0 this
                  · have hmb' : mm = some b := by simpa using hmb
                    subst hmb'
                    have HH : Hid (Tab.hasK (Tab.fill ks vs u) x = false) := hh
                    clear hh hmb
                    have hkey := key24 (n := x) hwx.1 (by omega)
                    have hsz : Maps.size (Tab.fill ks vs u) ≤ 200000 := by rw [(Tab.fill_law (L := t) u HF.out).2.1]; omega
                    go_wp2_with (at_mapUpdate; go_must (refine wpList_mapUpdate_own _ rfl _ _ _ 26 rfl 24 3 law24 Try.underlying26 (plainElem (H := Unit) Try.prog 3) b _ _ rfl ho (by unfold maxLen; omega) _ _ _ rfl rfl hkey _ [] (plainElem_int Try.underlying3 hwy) ?_); intro w3 hown1 hgrow1)
                    go_roundw
                    case rel =>
                      refine ⟨u + 1, by omega, by go_num, .inr ⟨b, rfl, hbb, ?_⟩, ?_, hbel.grown hgrow1 hbel.size (fun j hj => by cases hj; exact hbb)⟩
                      · have e : Tab.fill ks vs (u + 1) = (Tab.fill ks vs u).put (Tab.kk x) (Tab.vv y) := by rw [HX.out, HY.out]; rfl
                        rw [e]
                        exact ownsMap_tight hown1
                      · intro j hj
                        by_cases ej : j = u
                        · subst ej
                          rw [← HX.out, ← HY.out]
                          exact ⟨by omega, by omega, HH.out⟩
                        · exact HF.out j (by omega)
                    case measure => simp [intOf]; omega
                · rw [hh] at hlook
                  clear hh
                  go_wp2
                  go_ret
                  exact ⟨rfl, hbel⟩
          · obtain rfl : u = L1 := by omega
            by_cases hN1 : (N : Int) = (Tab.cnt bn : Int) + u
            · by_cases hN2 : (t : Int) ≤ 2 * N
              · have hR0 : Reads .i64 wr (.slice a0 t c0) bn := by have h := (h0.world hbel).reads c0; rw [← E0.out] at h; exact h
                have hcall := look_calls (w := wr) n hR0 hmap.isM (by have := E0.out; omega) (by omega) hn1
                have hlaw := fun hl => Tab.records_law (bn := bn) (ks := ks) (vs := vs) N n i HLow2.out (by rw [← E0.out, ← E1.out]; exact HF.out) (by rw [← E1.out]; omega) hn0 hi0 hl (by rw [← E0.out]; omega) _ rfl
                rw [← E1.out, ← E0.out] at hlaw
                have HLaw := hide hlaw
                have hnb2 : ((N : Int) != (Tab.cnt bn : Int) + u) = false := by simp; omega
                have hnle : ¬ (2 * (N : Int)) < (t : Int) := by omega
                have hNb : N ≤ 200000 := by omega
                have hclone := clone_calls w2.heap.size a0 c0 bn wr HA0.out (h0.world hbel) (by have := E0.out; omega) hbel.size
                rw [← E0.out] at hclone
                have hsz0 : Maps.size (Tab.fill ks vs u) ≤ 200000 := by rw [(Tab.fill_law (L := t) u HF.out).2.1]; omega
                clear hlaw hN1 hN2
                by_cases hl : Tab.look (bn, Tab.fill ks vs u) n = -1
                · rw [hl] at hcall
                  have hlw := HLaw.out hl
                  clear HLaw hl
                  have hz := zzadd_for w2.heap.size bn (Tab.fill ks vs u) t E0.out mm N n i hn0 hn1 hi1 (by omega) (by omega) (by omega) _ rfl
                  generalize Tab.add (bn, Tab.fill ks vs u) N n i = s at *
                  obtain ⟨g1, g2, g3, g4, g5, g6, g7⟩ := hlw
                  have HZ := hide hz
                  have G1 := hide g1
                  have G2 := hide g2
                  have G3 := hide g3
                  have G4 := hide g4
                  have G5 := hide g5
                  have HCl := hide hclone
                  clear hz g1 g2 g3 g4 g5 hclone hsz0 hR0
                  go_wp2_with fail
                  refine hcall.mono ?_
                  rintro e w3 ⟨rfl, rfl⟩
                  clear hcall
                  go_wp2_with fail
                  refine HCl.out.mono ?_
                  rintro e w4 ⟨a', c', rfl, hrow4, hgr4⟩
                  have hmap4 := hmap.kept hgr4 (fun b e => by cases e)
                  have hsz4 := hgr4.size
                  have hbel4 : Below w2.heap.size w2 w4 := hbel.grown hgr4 hbel.size (fun k e => by cases e)
                  clear HCl hmap hgr4
                  go_wp2_with fail
                  refine (HZ.out a' c' w4 hrow4 hmap4 hbel4.size).mono ?_
                  rintro e w5 ⟨a5, c5, mm5, rfl, hrow5, hmap5, hbel5⟩
                  have hb5 := hbel4.trans hbel5
                  clear HZ hrow4 hmap4 hbel5 hbel4 hbel hsz4
                  have hcall2 := look_calls (w := w5) n (reads_of_own hrow5) hmap5.isM (by omega) (by omega) hn1
                  rw [G1.out] at hcall2
                  go_wp2_with fail
                  refine hcall2.mono ?_
                  rintro e w6 ⟨rfl, rfl⟩
                  clear hcall2
                  go_wp2_with fail
                  go_loopw [23] (fun k wr => ∃ q : Nat, q ≤ t ∧ k = .int .i64 q ∧ wr.ownsRow w2.heap.size 3 1 (.slice a5 s.1.length c5) s.1.length (s.1.map (Value.int .i64)) ∧ IsMb w2.heap.size wr (.map mm5) s.2 ∧ Below w2.heap.size w2 wr) (fun k _ => t - (intOf k).toNat)
                  case atStart => exact ⟨0, Nat.zero_le _, rfl, hrow5, hmap5, hb5⟩
                  case round =>
                    clear hrow5 hmap5 hb5
                    obtain ⟨q, hq, rfl, hrow5, hmap5, hb5⟩ := hrel
                    by_cases hlt3 : q < t
                    · obtain ⟨b, off, ra, hc⟩ := h0.later hb5 (i := q) (by have := E0.out; omega)
                      subst ra
                      obtain ⟨x, hx⟩ : ∃ x, x = bn.getD q 0 := ⟨_, rfl⟩
                      rw [← hx] at hc
                      by_cases hx0 : 0 ≤ x
                      · have hcall : ∀ m, Calls Try.prog 10 #[.slice a5 s.1.length c5, .map mm5, .int .u64 ((q : Int) + 1)] (wr.drewN m) fun e w' => e = .returned (.int .i64 x) ∧ w' = wr.drewN m := by
                          intro m
                          have h := look_calls (w := wr.drewN m) ((q : Int) + 1) (reads_of_own hrow5) (IsMb.isM hmap5) (by omega) (by omega) (by omega)
                          rw [G2.out q hlt3 (by rw [← hx]; exact hx0), ← hx] at h
                          exact h
                        have HC := hide hcall
                        clear hcall hx
                        go_wp2_with fail
                        go_quiet ((go_at_call 10; exact Calls.quiet_of_same (HC.out _)))
                        go_wp2
                        go_roundw
                        case rel => exact ⟨q + 1, by omega, by go_num, hrow5, hmap5, below_drewN hb5 nq⟩
                        case measure => simp [intOf]; omega
                      · have hd : decide (0 ≤ x) = false := by simpa using hx0
                        clear hx
                        go_wp2_with fail
                        go_quiet (fail)
                        go_wp2
                        go_roundw
                        case rel => exact ⟨q + 1, by omega, by go_num, hrow5, hmap5, below_drewN hb5 nq⟩
                        case measure => simp [intOf]; omega
                    · obtain ⟨wp, hwp⟩ : ∃ wp : World, wp = wr := ⟨_, rfl⟩
                      rw [← hwp] at hrow5 hmap5 hb5 ⊢
                      clear hwp
                      go_wp2_with fail
                      go_loopw [24] (fun k wr => ∃ q : Nat, q ≤ u ∧ k = .int .i64 q ∧ wr.ownsRow w2.heap.size 3 1 (.slice a5 s.1.length c5) s.1.length (s.1.map (Value.int .i64)) ∧ IsMb w2.heap.size wr (.map mm5) s.2 ∧ Below w2.heap.size w2 wr) (fun k _ => u - (intOf k).toNat)
                      case atStart => exact ⟨0, Nat.zero_le _, rfl, hrow5, hmap5, hb5⟩
                      case round =>
                        clear hrow5 hmap5 hb5
                        obtain ⟨q, hq, rfl, hrow5, hmap5, hb5⟩ := hrel
                        by_cases hlt4 : q < u
                        · obtain ⟨b1, o1, ra1, hc1⟩ := h1.later hb5 (i := q) (by have := E1.out; omega)
                          obtain ⟨b2, o2, ra2, hc2⟩ := h2.later hb5 (i := q) (by have := E2.out; omega)
                          subst ra1 ra2
                          obtain ⟨x, hx⟩ : ∃ x, x = ks.getD q 0 := ⟨_, rfl⟩
                          obtain ⟨y, hy⟩ : ∃ y, y = vs.getD q 0 := ⟨_, rfl⟩
                          have hwx := bounds_u64 (wf_getD W1.out (i := q) (by have := E1.out; omega))
                          rw [← hx] at hc1 hwx
                          rw [← hy] at hc2
                          have hcall : ∀ m, Calls Try.prog 10 #[.slice a5 s.1.length c5, .map mm5, .int .u64 x] (wr.drewN m) fun e w' => e = .returned (.int .i64 y) ∧ w' = wr.drewN m := by
                            intro m
                            have h := look_calls (w := wr.drewN m) x (reads_of_own hrow5) (IsMb.isM hmap5) (by omega) hwx.1 (by omega)
                            rw [hx, G3.out q hlt4, ← hy, ← hx] at h
                            exact h
                          have HC := hide hcall
                          clear hcall hx hy
                          go_wp2_with fail
                          go_quiet ((go_at_call 10; exact Calls.quiet_of_same (HC.out _)))
                          go_wp2
                          go_roundw
                          case rel => exact ⟨q + 1, by omega, by go_num, hrow5, hmap5, below_drewN hb5 nq⟩
                          case measure => simp [intOf]; omega
                        · obtain ⟨wq, hwq⟩ : ∃ wq : World, wq = wr := ⟨_, rfl⟩
                          rw [← hwq] at hrow5 hmap5 hb5 ⊢
                          clear hwq
                          have hlen := hmap5.len
                          have hR := reads_of_own hrow5
                          have hcl := Tab.cnt_le s.1
                          go_wp2_with fail
                          go_loop [25, 26] (fun p j => ∃ v : Nat, v ≤ s.1.length ∧ j = .int .i64 v ∧ p = .int .i64 (Tab.cnt (s.1.take v) : Nat)) (fun _ j => s.1.length - (intOf j).toNat)
                          case atStart => exact ⟨0, Nat.zero_le _, rfl, by simp [Tab.cnt]⟩
                          case round =>
                            clear hq hlt4 hlt3
                            obtain ⟨v, hv, rfl, rfl⟩ := hrel
                            by_cases hlt5 : v < s.1.length
                            · obtain ⟨b', off, hab, _, hcell⟩ := hR.cell.2 (by omega)
                              subst hab
                              obtain ⟨x, hx⟩ : ∃ x, x = s.1.getD v 0 := ⟨_, rfl⟩
                              have q0 : wq.cell? ⟨b', off + v, none⟩ = some (.int .i64 x) := by rw [hx]; exact hcell v hlt5
                              have hlow : -1 ≤ x := by rw [hx]; exact G4.out v hlt5
                              have hct := Tab.cnt_take s.1 v hlt5
                              rw [← hx] at hct
                              have HC := hide hct
                              have hcb2 : Tab.cnt (s.1.take v) ≤ v := Nat.le_trans (Tab.cnt_le _) (List.length_take_le _ _)
                              clear hx hct hcell hlen hrow5 hmap5
                              by_cases hz : 0 ≤ x
                              · go_wp2
                                go_round
                                case rel => exact ⟨v + 1, by omega, by go_num, by rw [HC.out, if_pos hz]; go_num⟩
                                case measure => simp [intOf]; omega
                              · go_wp2
                                go_round
                                case rel => exact ⟨v + 1, by omega, by go_num, by rw [HC.out, if_neg hz]; go_num⟩
                                case measure => simp [intOf]; omega
                            · obtain rfl : v = s.1.length := by omega
                              rw [List.take_length]
                              have hms : Maps.size s.2 ≤ 1000000 := by have := G5.out; omega
                              have hfin : (((Tab.cnt s.1 : Nat) : Int) + ((Maps.size s.2 : Nat) : Int) == (N : Int) + 1) = true := by
                                have := G5.out
                                rw [beq_iff_eq]
                                omega
                              go_wp2
                              go_ret
                              exact ⟨rfl, hb5⟩
                · have hlb : (Tab.look (bn, Tab.fill ks vs u) n != -1) = true := by simpa using hl
                  generalize Tab.look (bn, Tab.fill ks vs u) n = lk at *
                  clear HLaw hclone
                  go_wp2_with (go_at_call 10; go_must (refine hcall.mono ?_); rintro e w3 ⟨rfl, rfl⟩)
                  go_ret
                  exact ⟨rfl, hbel⟩
              · have hnb2 : ((N : Int) != (Tab.cnt bn : Int) + u) = false := by simp; omega
                have hnle : (2 * (N : Int)) < (t : Int) := by omega
                clear hN1 hN2
                go_wp2
                go_ret
                exact ⟨rfl, hbel⟩
            · have hnb2 : ((N : Int) != (Tab.cnt bn : Int) + u) = true := by simp; omega
              clear hN1
              go_wp2
              go_ret
              exact ⟨rfl, hbel⟩

end Go.Proofs.Qxb6601966a
