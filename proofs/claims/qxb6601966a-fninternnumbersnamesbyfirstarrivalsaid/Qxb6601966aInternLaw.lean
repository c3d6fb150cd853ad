/-
  FnInternNumbersNamesByFirstArrival: the law's own walk.
-/
import Derived.Test.Qxb6601966aInternStart
namespace Go.Proofs.Qxb6601966a
open Go Go.RowKit Go.Maps

theorem mapHint {P : Program} {t k e : TypeId} (h : P.underlying t = some (.map k e)) (q : IntKind) (n : Int) (w : World) : (Instr.makeMap t (some (.int q n))).run P w = .ok (.map (some w.heap.size)) (w.alloc (.map #[] 0)) := by
  simp [Instr.makeMap, run_underlying h, asInt, asIntOf, Result.andThen]

/-- The row 'got'. -/
def rG (gb N : Nat) (G : List Int) : RowI := ⟨3, 1, .slice (some ⟨gb, 0, none⟩) N N, N, G.map (Value.int .i64)⟩

theorem Hist.got {w : World} {base hb b f n gb N : Nat} {l : List ByteArray} {D E : DataW Unit} {G : List Int} (h : Hist w base hb b f n l D E [rG gb N G]) (hG : G.length = N) {k : Nat} (hk : k < N) :
    w.cell? ⟨gb, k, none⟩ = some (.int .i64 (G.getD k 0)) ∧ w.frozen? ⟨gb, k, none⟩ = false := by
  obtain ⟨a3, a5, a6, a7, a8, a9, a10, a13, c3, c5, c6, c7, c8, c9, c10, c13, hS⟩ := h
  have hrow : w.ownsRow base 3 1 (.slice (some ⟨gb, 0, none⟩) N N) N (G.map (Value.int .i64)) := hS.rows.1 (rG gb N G) (by simp)
  refine ⟨?_, hrow.frozenAt k⟩
  rw [hrow.cellAt k (by omega)]
  simp [show k < G.length by omega]

theorem Hist.store {w : World} {base hb b f n gb N : Nat} {l : List ByteArray} {D E : DataW Unit} {G : List Int} (h : Hist w base hb b f n l D E [rG gb N G]) (t : Nat) (g : Int) :
    Hist (w.setCell ⟨gb, t, none⟩ (.int .i64 g)) base hb b f n l D E [rG gb N (G.set t g)] ∧ Below base w (w.setCell ⟨gb, t, none⟩ (.int .i64 g)) := by
  obtain ⟨a3, a5, a6, a7, a8, a9, a10, a13, c3, c5, c6, c7, c8, c9, c10, c13, hS⟩ := h
  obtain ⟨h1, h2⟩ := HSt.storeRow (pre := [r3 (.slice a3 n c3) n l, r5 (.slice a5 n c5) n, rS (.slice a6 n c6) n, rS (.slice a7 n c7) n, rS (.slice a8 n c8) n, rB (.slice a9 n c9) n, rB (.slice a10 n c10) n, rM (.slice a13 n c13) n]) (post := []) (w := w) (e := 3) (size := 1) (g := gb) (n := N) (cap := N) (xs := G.map (Value.int .i64)) hS t (.int .i64 g)
  refine ⟨⟨a3, a5, a6, a7, a8, a9, a10, a13, c3, c5, c6, c7, c8, c9, c10, c13, ?_⟩, h2⟩
  unfold Hs rG
  rw [List.map_set]
  exact h1

theorem Hist.map2 {w : World} {base hb b f n : Nat} {l : List ByteArray} {D E : DataW Unit} {ex : List RowI} (h : Hist w base hb b f n l D E ex) : w.ownsMap Try.prog 9 (plainElem Try.prog 3) f (Maps.size E) E := by
  obtain ⟨a3, a5, a6, a7, a8, a9, a10, a13, c3, c5, c6, c7, c8, c9, c10, c13, hS⟩ := h
  exact hS.map2

theorem Hist.putE {w w1 : World} {base hb b f n k : Nat} {l : List ByteArray} {D E E' : DataW Unit} {ex : List RowI} (h : Hist w base hb b f n l D E ex) (hown : w1.ownsMap Try.prog 9 (plainElem Try.prog 3) f k E') (ht : w.grownBy w1 (some f)) : Hist w1 base hb b f n l D E' ex ∧ Below base w w1 := by
  obtain ⟨a3, a5, a6, a7, a8, a9, a10, a13, c3, c5, c6, c7, c8, c9, c10, c13, hS⟩ := h
  have h1 := HSt.putE hS hown ht
  exact ⟨⟨a3, a5, a6, a7, a8, a9, a10, a13, c3, c5, c6, c7, c8, c9, c10, c13, h1.1⟩, h1.2⟩

theorem Nm.pos_first {ns : List ByteArray} {t : Nat} (ht : t < ns.length) (h : ns.getD t ByteArray.empty ∉ Nm.ids ns t) : Nm.pos (ns.getD t ByteArray.empty) ns = t := by
  have h1 := Nm.pos_le (s := ns.getD t ByteArray.empty) ht rfl
  have hm : ns.getD t ByteArray.empty ∈ ns := by simp [List.getElem?_eq_getElem ht]
  have h2 := Nm.pos_get hm
  rcases Nat.lt_or_ge (Nm.pos (ns.getD t ByteArray.empty) ns) t with h3 | h3
  · have h4 := Nm.ids_mem_of ns t _ h3
    rw [h2] at h4
    exact absurd h4 h
  · omega

theorem Nm.pos_before {ns : List ByteArray} {t : Nat} {s : ByteArray} (ht : t ≤ ns.length) (h : s ∈ Nm.ids ns t) : Nm.pos s ns < t ∧ ns.getD (Nm.pos s ns) ByteArray.empty = s := by
  obtain ⟨u, hu, e⟩ := Nm.ids_mem_inv ns t s h
  have h1 := Nm.pos_le (s := s) (l := ns) (t := u) (by omega) e
  have hm : s ∈ ns := by rw [← e]; simp [List.getElem?_eq_getElem (show u < ns.length by omega)]
  exact ⟨by omega, Nm.pos_get hm⟩

/-- got, one round on. -/
theorem got_step {ns : List ByteArray} {G : List Int} {t : Nat} (ht : t < G.length) (hG : ∀ u, u < t → G.getD u 0 = (Nm.pos (ns.getD u ByteArray.empty) (Nm.ids ns t) : Int)) :
    ∀ u, u < t + 1 → (G.set t (Nm.pos (ns.getD t ByteArray.empty) (Nm.ids ns (t + 1)) : Int)).getD u 0 = (Nm.pos (ns.getD u ByteArray.empty) (Nm.ids ns (t + 1)) : Int) := by
  intro u hu
  by_cases e : u = t
  · subst e
    simp [ht]
  · rw [List.getD_eq_getElem?_getD, List.getElem?_set_ne (by omega), ← List.getD_eq_getElem?_getD, hG u (by omega), Nm.pos_ids_step ns t _ (Nm.ids_mem_of ns t u (by omega))]

theorem own_some {w : World} {base n c size : Nat} {e : TypeId} {a : Option Addr} {xs : List Value} (h : w.ownsRow base e size (.slice a n c) n xs) (hn : 0 < n) : ∃ g, a = some ⟨g, 0, none⟩ ∧ ∀ j, j < n * size → w.cell? ⟨g, j, none⟩ = xs[j]? := by
  rcases h.2 with ⟨h', h0⟩ | ⟨g, cap, cur, h', _⟩
  · omega
  · simp at h'
    obtain ⟨rfl, rfl⟩ := h'
    exact ⟨g, rfl, fun j hj => h.cellAt j hj⟩

theorem xM_at : ∀ (n k j : Nat), k < n → j < 3 → (xM n)[k * 3 + j]? = zc[j]?
  | 0, k, j, h, _ => by omega
  | n + 1, 0, j, _, hj => by
    have e : xM (n + 1) = zc ++ xM n := by unfold xM; rw [List.replicate_succ, List.flatten_cons]
    rw [e, Nat.zero_mul, Nat.zero_add, List.getElem?_append_left (by simpa [zc] using hj)]
  | n + 1, k + 1, j, h, hj => by
    have e : xM (n + 1) = zc ++ xM n := by unfold xM; rw [List.replicate_succ, List.flatten_cons]
    have ih := xM_at n k j (by omega) hj
    rw [e, List.getElem?_append_right (by simp [zc]; omega), ← ih]
    congr 1
    simp [zc]
    omega

theorem HSt.drewN {w : World} {base hb b f : Nat} {vs : List Value} {rs : List RowI} {D E : DataW Unit} (h : HSt w base hb b f vs rs D E) (q : Nat) : HSt (w.drewN q) base hb b f vs rs D E := h.kept ⟨rfl, rfl, rfl, Nat.le_refl _, fun _ _ _ => rfl⟩

/-- What the loop holds behind j rounds. -/
def LoopI (w wr : World) (ns : List ByteArray) (N base hb b f gb j : Nat) : Prop :=
  ∃ D E G, Hist wr base hb b f (Nm.ids ns j).length (Nm.ids ns j) D E [rG gb N G] ∧ Nm.Idx D (Nm.ids ns j) (fun x => (Nm.pos x (Nm.ids ns j) : Int)) ∧ Nm.Idx E (Nm.ids ns j) (fun x => (Nm.pos x ns : Int)) ∧
    G.length = N ∧ (∀ t, t < j → G.getD t 0 = (Nm.pos (ns.getD t ByteArray.empty) (Nm.ids ns j) : Int)) ∧ Below base w wr

theorem loop_start {w W4 : World} {N : Nat} (ns : List ByteArray) (hg : (((w.alloc (.map #[] 0)).alloc (.cells (nilCells w.heap.size) 71)).alloc (.map #[] 0)).grownBy W4 none)
    (hown : W4.ownsRow w.heap.size 3 1 (.slice (some ⟨w.heap.size + 1 + 1 + 1, 0, none⟩) N N) N (madeCells (Value.int .i64 0).cells (N * 1)).toList) :
    LoopI w W4 ns N w.heap.size (w.heap.size + 1) w.heap.size (w.heap.size + 1 + 1) (w.heap.size + 1 + 1 + 1) 0 := by
  have h0 := hist_start w
  have hsz : (((w.alloc (.map #[] 0)).alloc (.cells (nilCells w.heap.size) 71)).alloc (.map #[] 0)).heap.size = w.heap.size + 1 + 1 + 1 := by simp
  have h1 := h0.more hg (by decide) hown (by simp [Value.ownBlock])
  have hb : Below w.heap.size w W4 := by
    refine Below.grown ?_ hg (by omega) (fun k e => by cases e)
    exact (((Below.refl _ _).alloc (Nat.le_refl _) _).alloc (by simp) _).alloc (by simp; omega) _
  have e : (madeCells (Value.int .i64 0).cells (N * 1)).toList = (List.replicate N (0 : Int)).map (Value.int .i64) := by
    rw [Nat.mul_one, show (Value.int .i64 0).cells = #[Value.int .i64 0] from rfl, toList_madeCells_one, List.map_replicate]
  refine ⟨.map [], .map [], List.replicate N 0, ⟨none, none, none, none, none, none, none, none, 0, 0, 0, 0, 0, 0, 0, 0, ?_⟩, Nm.idx_empty _, Nm.idx_empty _, by simp, fun t ht => by omega, hb⟩
  rw [e] at h1
  exact h1

set_option maxRecDepth 100000 in
set_option maxHeartbeats 4000000 in
theorem intern_main (a : Option Addr) (N c : Nat) (ns : List ByteArray) (w : World) (hN : N = ns.length) (hm : N ≤ 65536) (h : NRd w a ns) (hs : ∀ s ∈ ns, s.size ≤ maxLen) :
    Calls Try.prog 5 #[.slice a N c] w fun e w' => e = .returned (.bool true) ∧ Below w.heap.size w w' := by
  have hby := hide2 (bytes_intern a N c ns w hN (by unfold maxLen; omega) h hs)
  have hmk := @run_makeMap Try.prog
  have hmh := fun q n w => mapHint (P := Try.prog) Try.underlying38 q n w
  obtain ⟨i0, hi, hz0, hz1, hz2⟩ := info_parts info3'
  have HN := hide2 hN
  have HS := hide2 hs
  clear hN hs
  go_enter Try.func5, Try.ntmps5
  go_wp2_with (go_at_call 14; go_must (refine hby.out.mono ?_); rintro e w1 ⟨⟨b, rfl⟩, rfl⟩; cases b)
  · go_ret
    exact ⟨rfl, Below.refl _ _⟩
  clear hby
  go_loop [3, 4] (fun z j => ∃ t q : Nat, t ≤ N ∧ q ≤ 1048576 ∧ j = .int .i64 t ∧ z = .int .i64 q) (fun _ j => N - (intOf j).toNat)
  case atStart => exact ⟨0, 16 * N, Nat.zero_le _, by omega, rfl, by go_num⟩
  case round =>
    obtain ⟨t, q, ht, hq, rfl, rfl⟩ := hrel
    by_cases hlt : t < N
    · obtain ⟨b, off, ra, hc⟩ := h.later (Below.refl _ _) (i := t) (by have := HN.out; omega)
      subst ra
      have hsz := size_getD HS.out t
      unfold maxLen at hsz
      obtain ⟨s, hs⟩ : ∃ s, s = ns.getD t ByteArray.empty := ⟨_, rfl⟩
      rw [← hs] at hc hsz
      clear hs
      by_cases k1 : (s.size : Int) ≤ 1048576
      · by_cases k2 : (q : Int) + s.size ≤ 1048576
        · go_wp2
          go_round
          case rel => exact ⟨t + 1, q + s.size, by omega, by omega, by go_num, by go_num⟩
          case measure => simp [intOf]; omega
        · go_wp2
          go_ret
          exact ⟨rfl, Below.refl _ _⟩
      · go_wp2
        go_ret
        exact ⟨rfl, Below.refl _ _⟩
    · go_wp2_with (first
        | (go_at_call 15; go_must (refine (newhist_calls _ w1.heap.size).mono ?_; rintro e w2 ⟨rfl, rfl⟩))
        | (at_make; go_must (refine wpList_make_full _ rfl _ _ 22 rfl w1.heap.size 3 i0 (.int .i64 0) 1 Try.underlying22 hi hz0 hz1 .i64 .i64 _ _ N rfl rfl rfl rfl (by rw [hz2]; omega) (by unfold maxLen; omega) (by simp; omega) ?_; intro W4 hown4 hgr4)))
      have hL := loop_start ns hgr4 (by simpa using hown4)
      clear hown4 hgr4 hmk hmh hi hz0 hz1 hz2
      obtain ⟨base, hbase⟩ : ∃ base, base = w1.heap.size := ⟨_, rfl⟩
      have HB := hide2 hbase
      rw [← hbase] at hL
      obtain ⟨gb, hgb⟩ : ∃ gb, gb = w1.heap.size + 1 + 1 + 1 := ⟨_, rfl⟩
      obtain ⟨fb, hfb⟩ : ∃ fb, fb = w1.heap.size + 1 + 1 := ⟨_, rfl⟩
      obtain ⟨hb, hhb⟩ : ∃ hb, hb = w1.heap.size + 1 := ⟨_, rfl⟩
      rw [hbase, ← hgb, ← hfb, ← hhb, ← hbase] at hL
      rw [← hgb, ← hfb, ← hhb, ← hbase]
      clear hbase hgb hfb hhb
      go_loopw [8, 9] (fun d j wr => ∃ t : Nat, t ≤ N ∧ j = .int .i64 t ∧ d = .int .i64 ((Nm.ids ns t).length : Nat) ∧ LoopI w1 wr ns N base hb base fb gb t) (fun _ j _ => N - (intOf j).toNat)
      case atStart => exact ⟨0, Nat.zero_le _, rfl, rfl, hL⟩
      case round =>
        clear hL hlt ht hq
        obtain ⟨t, ht, rfl, rfl, hL⟩ := hrel
        by_cases hlt : t < N
        · obtain ⟨D, E, G, hH, hI1, hI2, hG1, hG2, hbel⟩ := hL
          obtain ⟨b, off, ra, hc⟩ := h.later (HB.out ▸ hbel) (i := t) (by have := HN.out; omega)
          subst ra
          have hsz := size_getD HS.out t
          obtain ⟨s, hs⟩ : ∃ s, s = ns.getD t ByteArray.empty := ⟨_, rfl⟩
          rw [← hs] at hc hsz
          have hle := Nm.ids_le ns t
          have hle2 := Nm.ids_le ns (t + 1)
          have hl2 : (if Nm.mem s (Nm.ids ns t) then Nm.ids ns t else Nm.ids ns t ++ [s]) = Nm.ids ns (t + 1) := by rw [hs]; rfl
          have HL2 := hide2 hl2
          have hmemN : s ∈ Nm.ids ns (t + 1) := by rw [hs]; exact Nm.ids_mem_of ns (t + 1) t (by omega)
          have hcall := hide2 (zzintern_calls hb base base fb s (Nm.ids ns t) D E [rG gb N G] wr hH hI1 hsz (by omega))
          have HIm := hide2 hmemN
          have HI2 := hide2 hI2
          have HG2 := hide2 hG2
          have HX := hide2 hs
          clear hl2 hs hmemN hI1 hI2 hG2 hH
          go_upto_region 23 with (go_at_call 16; go_must (refine hcall.out.mono ?_; rintro e w2 ⟨l', D', rfl, hl', hH', hI1', hbel'⟩; rw [HL2.out] at hl'; subst hl'; have hgt := hH'.got hG1 hlt; have hst := hH'.store t (Nm.pos s (Nm.ids ns (t + 1)) : Int)))
          obtain ⟨hH3, hb3⟩ := hst
          have hbel3 := (hbel.trans hbel').trans hb3
          have hc3 : w2.setCell ⟨gb, t, none⟩ (.int .i64 (Nm.pos s (Nm.ids ns (t + 1)) : Int)) |>.cell? ⟨b, off + t, none⟩ |> (· = some (.string s)) := by
            have hlt2 : b < base := by have h5 := HB.out; obtain ⟨b', o', e', h6, _⟩ := h (by have := HN.out; omega); simp at e'; omega
            exact ((hbel'.trans hb3).cell (p := ⟨b, off + t, none⟩) hlt2).trans hc
          clear hbel hbel' hb3 hgt hcall hc
          generalize w2.setCell ⟨gb, t, none⟩ (.int .i64 (Nm.pos s (Nm.ids ns (t + 1)) : Int)) = w3 at *
          have hlk := lookS hH3.map2 hsz
          have HI1 := hide2 hI1'
          clear hI1'
          have hGl : t < G.length := by omega
          have HGs := hide2 (got_step hGl HG2.out)
          rw [← HX.out] at HGs
          have hG1' : (G.set t (Nm.pos s (Nm.ids ns (t + 1)) : Int)).length = N := by simpa using hG1
          cases hm : Nm.mem s (Nm.ids ns t)
          · have hno := Nm.not_mem hm
            have he : Nm.ids ns (t + 1) = Nm.ids ns t ++ [s] := by rw [← HL2.out, hm]; rfl
            have hg : Nm.pos s (Nm.ids ns (t + 1)) = (Nm.ids ns t).length := by rw [he, Nm.pos_snoc_new hno]
            have hlen : (Nm.ids ns (t + 1)).length = (Nm.ids ns t).length + 1 := by rw [he]; simp
            have hpn : Nm.pos s ns = t := by rw [HX.out]; exact Nm.pos_first (by have := HN.out; omega) (by rw [← HX.out]; exact hno)
            rw [HI2.out.has, hm] at hlk
            have hkey := key9 hsz
            have hgb2 : ((Nm.pos s (Nm.ids ns (t + 1)) : Int) != ((Nm.ids ns t).length : Int)) = false := by rw [hg]; simp
            have hszE : Maps.size E ≤ 1000000 := by rw [HI2.out.size]; omega
            have hmapE := hH3.map2
            have HIE := hide2 (HI2.out.put hno (t : Int) (fun x => (Nm.pos x ns : Int)) (fun x _ => rfl) (by rw [hpn]))
            rw [← he] at HIE
            have HLen := hide2 hlen
            clear hm hno he hg hlen hpn
            generalize Nm.pos s (Nm.ids ns (t + 1)) = g at *
            go_wp2_with (at_mapUpdate; go_must (refine wpList_mapUpdate_own _ rfl _ _ _ 38 rfl 9 3 law9 Try.underlying38 (plainElem (H := Unit) Try.prog 3) fb _ _ rfl hmapE (by unfold maxLen; omega) _ _ _ rfl rfl hkey _ [] (plainElem_int Try.underlying3 (WalkArith.wf_i64 (by omega))) ?_; intro w5 hown5 hgr5))
            obtain ⟨hH5, hb5⟩ := hH3.putE hown5 hgr5
            go_roundw
            case rel => exact ⟨t + 1, by omega, by go_num, by rw [HLen.out]; go_num, D', _, _, hH5, HI1.out, HIE.out, hG1', HGs.out, hbel3.trans hb5⟩
            case measure => simp [intOf]; omega
          · have hyes := Nm.mem_iff.1 hm
            have he : Nm.ids ns (t + 1) = Nm.ids ns t := by rw [← HL2.out, hm]; rfl
            obtain ⟨hp1, hp2⟩ := Nm.pos_before (by have := HN.out; omega) hyes
            rw [HI2.out.has, hm, HI2.out.val s hyes] at hlk
            have hgp := HGs.out (Nm.pos s ns) (by omega)
            rw [hp2] at hgp
            have hcp := (hH3.got hG1' (k := Nm.pos s ns) (by omega)).1
            rw [hgp] at hcp
            have HIE := hide2 HI2.out
            rw [← he] at HIE
            have HLen : Hid ((Nm.ids ns (t + 1)).length = (Nm.ids ns t).length) := hide2 (by rw [he])
            clear hm hyes he hp2 hgp
            generalize Nm.pos s ns = p at *
            generalize Nm.pos s (Nm.ids ns (t + 1)) = g at *
            have hpN : p < N := by omega
            go_wp2
            go_roundw
            case rel => exact ⟨t + 1, by omega, by go_num, by rw [HLen.out], D', _, _, hH3, HI1.out, HIE.out, hG1', HGs.out, hbel3⟩
            case measure => simp [intOf]; omega
        · obtain ⟨D, E, G, hH, hI1, hI2, hG1, hG2, hbel⟩ := hL
          obtain rfl : t = N := by omega
          obtain ⟨a3, a5, a6, a7, a8, a9, a10, a13, c3, c5, c6, c7, c8, c9, c10, c13, hS⟩ := hH
          have hnd := Nm.ids_nodup ns t
          have hle := Nm.ids_le ns t
          have hmem : ∀ q, q < t → ns.getD q ByteArray.empty ∈ Nm.ids ns t := fun q hq => Nm.ids_mem_of ns t q hq
          have hszl : ∀ k, ((Nm.ids ns t).getD k ByteArray.empty).size ≤ maxLen := by
            intro k
            by_cases hk : k < (Nm.ids ns t).length
            · obtain ⟨u, hu, e⟩ := Nm.ids_mem_inv ns t ((Nm.ids ns t).getD k ByteArray.empty) (by simp [List.getElem?_eq_getElem hk])
              rw [← e]
              exact size_getD HS.out u
            · rw [List.getD_eq_getElem?_getD, List.getElem?_eq_none (by omega)]
              exact Nat.zero_le _
          generalize Nm.ids ns t = l at *
          obtain ⟨n, hn⟩ : ∃ n, n = l.length := ⟨_, rfl⟩
          have hS' : Hs wr base hb base fb n l D E [rG gb t G] a3 a5 a6 a7 a8 a9 a10 a13 c3 c5 c6 c7 c8 c9 c10 c13 := by rw [hn]; exact hS
          have hmlen : ∀ q ty, (Builtin.len_ #[38] ty #[.map (some base)]).run Try.prog (wr.drewN q) = .ok (.int .i64 (n : Int)) (wr.drewN q) := by
            intro q ty
            have h := (HSt.drewN hS' q).map.len Try.underlying38 ty
            rw [hI1.size, ← hn] at h
            exact h
          rw [← hn] at hle ⊢
          have Hn := hide2 hn
          have Hnd := hide2 hnd
          have Hmem := hide2 hmem
          have Hszl := hide2 hszl
          have HI1 := hide2 hI1
          have HG2 := hide2 hG2
          have hcall := hide2 (state_calls wr hb base a3 a5 a6 a7 a8 a9 a10 a13 n c3 c5 c6 c7 c8 c9 c10 c13 base fb _ D E hS')
          clear hn hnd hmem hszl hI1 hI2 hG2 hS
          go_wp2_with (go_at_call 17; go_must (refine hcall.out.mono ?_; rintro e w4 ⟨rfl, q4, rfl⟩))
          clear hmlen
          have hS5 := HSt.drewN hS' q4
          have hb5 := below_drewN hbel q4
          obtain ⟨w5, hw5⟩ : ∃ w5, w5 = wr.drewN q4 := ⟨_, rfl⟩
          rw [← hw5] at hS5 hb5 ⊢
          clear hw5 hS' hbel hcall
          go_loopw [22] (fun j wq => ∃ q : Nat, q ≤ t ∧ j = .int .i64 q ∧ HSt wq base hb base fb (hv base (.slice a3 n c3) (.slice a5 n c5) (.slice a6 n c6) (.slice a7 n c7) (.slice a8 n c8) (.slice a9 n c9) (.slice a10 n c10) (.slice a13 n c13)) (r3 (.slice a3 n c3) n l :: r5 (.slice a5 n c5) n :: rS (.slice a6 n c6) n :: rS (.slice a7 n c7) n :: rS (.slice a8 n c8) n :: rB (.slice a9 n c9) n :: rB (.slice a10 n c10) n :: rM (.slice a13 n c13) n :: [rG gb t G]) D E ∧ Below base w1 wq) (fun j _ => t - (intOf j).toNat)
          case atStart => exact ⟨0, Nat.zero_le _, rfl, hS5, hb5⟩
          case round =>
            clear hS5 hb5
            obtain ⟨q, hq, rfl, hS5, hb5⟩ := hrel
            by_cases hlt3 : q < t
            · obtain ⟨b, off, ra, hc⟩ := h.later (HB.out ▸ hb5) (i := q) (by have := HN.out; omega)
              subst ra
              obtain ⟨s, hs⟩ : ∃ s, s = ns.getD q ByteArray.empty := ⟨_, rfl⟩
              rw [← hs] at hc
              have hms := Hmem.out q hlt3
              rw [← hs] at hms
              have hpl := Nm.pos_lt hms
              have hpg := Nm.pos_get hms
              rw [← Hn.out] at hpl
              have hG := HG2.out q hlt3
              rw [← hs] at hG
              have hrow : wr.ownsRow base 3 1 (.slice (some ⟨gb, 0, none⟩) t t) t (G.map (Value.int .i64)) := hS5.rows.1 (rG gb t G) (by simp)
              have hcg : wr.cell? ⟨gb, q, none⟩ = some (.int .i64 (Nm.pos s l : Int)) := by
                rw [hrow.cellAt q (by omega), ← hG]
                simp [show q < G.length by omega]
              have hrow3 : wr.ownsRow base 9 1 (.slice a3 n c3) n (l.map Value.string) := hS5.rows.1 (r3 (.slice a3 n c3) n l) (by simp)
              obtain ⟨g3, ra3, hc3⟩ := own_some hrow3 (by omega)
              subst ra3
              have hci : wr.cell? ⟨g3, Nm.pos s l, none⟩ = some (.string s) := by
                rw [hc3 _ (by omega)]
                have hp2 : Nm.pos s l < l.length := by rw [← Hn.out]; exact hpl
                rw [List.getElem?_map, List.getElem?_eq_getElem hp2]
                rw [List.getD_eq_getElem?_getD, List.getElem?_eq_getElem hp2, Option.getD_some] at hpg
                simp [hpg]
              have HS5 := hide2 hS5
              clear hs hms hpg hG hrow hrow3 hc3 hS5
              generalize Nm.pos s l = p at *
              have b1 : decide ((p : Int) < 0) = false := by simp
              have b2 : decide ((n : Int) ≤ (p : Int)) = false := by simp; omega
              have b3 : (p : Int) < (n : Int) := by omega
              have b4 : (q : Int) < (t : Int) := by omega
              go_wp2_with fail
              go_quiet (fail)
              go_wp2
              go_roundw
              case rel => exact ⟨q + 1, by omega, by go_num, HSt.drewN HS5.out nq, below_drewN hb5 nq⟩
              case measure => simp [intOf]; omega
            · obtain ⟨w6, hw6⟩ : ∃ w6, w6 = wr := ⟨_, rfl⟩
              rw [← hw6] at hS5 hb5 ⊢
              clear hw6
              have q22 : ∀ (w : World) (a : Option Addr) (n c n' c' : Nat), (binOp .neq 22 (.slice a n c) (.slice none n' c')).run Try.prog w = .ok (.bool (!a.isNone)) w := fun w a n c n' c' => run_neq_slice_nil_any w _ _ a n c n' c' Try.underlying22
              go_wp2_with fail
              go_loopw [23] (fun j wq => ∃ k : Nat, k ≤ n ∧ j = .int .i64 k ∧ HSt wq base hb base fb (hv base (.slice a3 n c3) (.slice a5 n c5) (.slice a6 n c6) (.slice a7 n c7) (.slice a8 n c8) (.slice a9 n c9) (.slice a10 n c10) (.slice a13 n c13)) (r3 (.slice a3 n c3) n l :: r5 (.slice a5 n c5) n :: rS (.slice a6 n c6) n :: rS (.slice a7 n c7) n :: rS (.slice a8 n c8) n :: rB (.slice a9 n c9) n :: rB (.slice a10 n c10) n :: rM (.slice a13 n c13) n :: [rG gb t G]) D E ∧ Below base w1 wq) (fun j _ => n - (intOf j).toNat)
              case atStart => exact ⟨0, Nat.zero_le _, rfl, hS5, hb5⟩
              case round =>
                clear hS5 hb5 hlt3 hq
                obtain ⟨k, hk, rfl, hS5, hb5⟩ := hrel
                by_cases hlt4 : k < n
                · have hrow3 : wr.ownsRow base 9 1 (.slice a3 n c3) n (l.map Value.string) := hS5.rows.1 (r3 (.slice a3 n c3) n l) (by simp)
                  have hrow5 : wr.ownsRow base 3 1 (.slice a5 n c5) n (xI n) := hS5.rows.1 (r5 (.slice a5 n c5) n) (by simp)
                  have hrow6 : wr.ownsRow base 22 1 (.slice a6 n c6) n (xS n) := hS5.rows.1 (rS (.slice a6 n c6) n) (by simp)
                  have hrow7 : wr.ownsRow base 22 1 (.slice a7 n c7) n (xS n) := hS5.rows.1 (rS (.slice a7 n c7) n) (by simp)
                  have hrow8 : wr.ownsRow base 22 1 (.slice a8 n c8) n (xS n) := hS5.rows.1 (rS (.slice a8 n c8) n) (by simp)
                  have hrow9 : wr.ownsRow base 4 1 (.slice a9 n c9) n (xB n) := hS5.rows.1 (rB (.slice a9 n c9) n) (by simp)
                  have hrow10 : wr.ownsRow base 4 1 (.slice a10 n c10) n (xB n) := hS5.rows.1 (rB (.slice a10 n c10) n) (by simp)
                  have hrow13 : wr.ownsRow base 47 3 (.slice a13 n c13) n (xM n) := hS5.rows.1 (rM (.slice a13 n c13) n) (by simp)
                  obtain ⟨g3, rfl, hc3⟩ := own_some hrow3 (by omega)
                  obtain ⟨g5, rfl, hc5⟩ := own_some hrow5 (by omega)
                  obtain ⟨g6, rfl, hc6⟩ := own_some hrow6 (by omega)
                  obtain ⟨g7, rfl, hc7⟩ := own_some hrow7 (by omega)
                  obtain ⟨g8, rfl, hc8⟩ := own_some hrow8 (by omega)
                  obtain ⟨g9, rfl, hc9⟩ := own_some hrow9 (by omega)
                  obtain ⟨g10, rfl, hc10⟩ := own_some hrow10 (by omega)
                  obtain ⟨g13, rfl, hc13⟩ := own_some hrow13 (by omega)
                  obtain ⟨s, hs⟩ : ∃ s, s = l.getD k ByteArray.empty := ⟨_, rfl⟩
                  have hkl : k < l.length := by rw [← Hn.out]; exact hlt4
                  have hsm : s ∈ l := by rw [hs]; simp [List.getElem?_eq_getElem hkl]
                  have hpk : Nm.pos s l = k := by rw [hs]; exact Nm.pos_of_nodup Hnd.out hkl
                  have d3 : wr.cell? ⟨g3, k, none⟩ = some (.string s) := by
                    rw [hc3 k (by omega), List.getElem?_map, hs]
                    simp [List.getElem?_eq_getElem hkl]
                  have d5 : wr.cell? ⟨g5, k, none⟩ = some (.int .i64 (-1)) := by rw [hc5 k (by omega)]; simp [xI, hlt4]
                  have d6 : wr.cell? ⟨g6, k, none⟩ = some (.slice none 0 0) := by rw [hc6 k (by omega)]; simp [xS, hlt4]
                  have d7 : wr.cell? ⟨g7, k, none⟩ = some (.slice none 0 0) := by rw [hc7 k (by omega)]; simp [xS, hlt4]
                  have d8 : wr.cell? ⟨g8, k, none⟩ = some (.slice none 0 0) := by rw [hc8 k (by omega)]; simp [xS, hlt4]
                  have d9 : wr.cell? ⟨g9, k, none⟩ = some (.bool false) := by rw [hc9 k (by omega)]; simp [xB, hlt4]
                  have d10 : wr.cell? ⟨g10, k, none⟩ = some (.bool false) := by rw [hc10 k (by omega)]; simp [xB, hlt4]
                  have m0 : wr.cell? ⟨g13, k * 3, none⟩ = some (.slice none 0 0) := (hc13 (k * 3) (by omega)).trans (xM_at n k 0 hlt4 (by omega))
                  have m1 : wr.cell? ⟨g13, k * 3 + 1, none⟩ = some (.map none) := (hc13 (k * 3 + 1) (by omega)).trans (xM_at n k 1 hlt4 (by omega))
                  have m2 : wr.cell? ⟨g13, k * 3 + 2, none⟩ = some (.int .i64 0) := (hc13 (k * 3 + 2) (by omega)).trans (xM_at n k 2 hlt4 (by omega))
                  have hlk := lookS hS5.map (s := s) (by rw [hs]; exact Hszl.out k)
                  rw [HI1.out.has, HI1.out.val s hsm, hpk, Nm.mem_iff.2 hsm] at hlk
                  have HS5 := hide2 hS5
                  have hcall := fun w => hide2 (zero_calls w)
                  clear hrow3 hrow5 hrow6 hrow7 hrow8 hrow9 hrow10 hrow13 hc3 hc5 hc6 hc7 hc8 hc9 hc10 hc13 hs hkl hsm hpk hS5
                  go_wp2_with (go_at_call 18; go_must (refine (hcall _).out.mono ?_; rintro e w7 ⟨rfl, hg7⟩))
                  go_roundw
                  case rel => exact ⟨k + 1, by omega, by go_num, HS5.out.kept hg7, hb5.grown hg7 HS5.out.base_le (fun k e => by cases e)⟩
                  case measure => simp [intOf]; omega
                · go_wp2
                  go_ret
                  exact ⟨rfl, HB.out ▸ hb5⟩

end Go.Proofs.Qxb6601966a
