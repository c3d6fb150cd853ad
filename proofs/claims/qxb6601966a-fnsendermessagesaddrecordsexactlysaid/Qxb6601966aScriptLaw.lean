/-
  FnSenderMessagesAddScriptFromEmpty: the law's own walk.
-/
import Derived.Test.Qxb6601966aScript
import Derived.Deep.RegionHeld3
import Derived.Handy
namespace Go.Proofs.Qxb6601966a
open Go Go.RowKit Go.Maps

theorem Reads.cell {k : IntKind} {w : World} {a : Option Addr} {len cap : Nat} {zs : List Int} (h : Reads k w (.slice a len cap) zs) : len = zs.length ∧ (0 < zs.length → ∃ b off, a = some ⟨b, off, none⟩ ∧ b < w.heap.size ∧ ∀ i, i < zs.length → w.cell? ⟨b, off + i, none⟩ = some (.int k (zs.getD i 0))) := by
  obtain ⟨a', cap', e, h'⟩ := h
  simp only [Value.slice.injEq] at e
  obtain ⟨rfl, rfl, rfl⟩ := e
  exact ⟨rfl, h'⟩

theorem IsMb.shape {base : Nat} {w : World} {m : Value} {D : DataW Unit} (h : IsMb base w m D) : ∃ mm, m = .map mm := by
  rcases h with ⟨rfl, _⟩ | ⟨b, rfl, _⟩
  · exact ⟨_, rfl⟩
  · exact ⟨_, rfl⟩

/-- 'len(m)' of the table's map. -/
theorem IsMb.len {base : Nat} {w : World} {m : Value} {D : DataW Unit} (h : IsMb base w m D) (ty : TypeId) : (Builtin.len_ #[26] ty #[m]).run Try.prog w = .ok (.int .i64 (Maps.size D)) w := by
  rcases h with ⟨rfl, rfl⟩ | ⟨b, rfl, _, ho⟩
  · rw [Maps.len_nil Try.underlying26]; rfl
  · exact ho.len Try.underlying26 ty

/-- A row of the call's own reads as its numbers. -/
theorem reads_of_own {w : World} {base : Nat} {v : Value} {zs : List Int} (h : w.ownsRow base 3 1 v zs.length (zs.map (Value.int .i64))) : Reads .i64 w v zs := by
  rcases h.2 with ⟨rfl, h0⟩ | ⟨g, cap, cur, rfl, _, hg, _⟩
  · exact ⟨none, 0, by rw [h0], fun hp => by omega⟩
  · refine ⟨_, cap, rfl, fun _ => ⟨g, 0, rfl, lt_of_block hg, fun i hi => ?_⟩⟩
    rw [Nat.zero_add, h.cellAt i (by omega)]
    simp [hi]

set_option maxHeartbeats 2000000 in
theorem script_main (b0 o0 c0 b1 o1 c1 : Nat) (ns is : List Int) (w : World) (hb0 : b0 < w.heap.size) (hb1 : b1 < w.heap.size) (hlen : ns.length = is.length) (hL : ns.length ≤ 65536)
    (hc0 : ∀ i, i < ns.length → w.cell? ⟨b0, o0 + i, none⟩ = some (.int .u64 (ns.getD i 0))) (hc1 : ∀ i, i < is.length → w.cell? ⟨b1, o1 + i, none⟩ = some (.int .i64 (is.getD i 0)))
    (hw0 : ∀ n ∈ ns, (Lit.int .u64 n).wf = true) (hw1 : ∀ n ∈ is, (Lit.int .i64 n).wf = true) :
    Calls Try.prog 4 #[.slice (some ⟨b0, o0, none⟩) ns.length c0, .slice (some ⟨b1, o1, none⟩) is.length c1] w fun e w' => e = .returned (.bool true) ∧ Below w.heap.size w w' := by
  have hmm := fun q n w => run_makeMap_hint (P := Try.prog) Try.underlying33 q n w
  have hby := bytes_script (some ⟨b0, o0, none⟩) (some ⟨b1, o1, none⟩) ns.length c0 is.length c1 w (by unfold maxLen; omega) (by unfold maxLen; omega)
  obtain ⟨L, hLn⟩ : ∃ L, L = ns.length := ⟨_, rfl⟩
  have hLi : L = is.length := hLn.trans hlen
  rw [← hLn] at hby hL hc0 ⊢
  rw [← hLi] at hby hc1 ⊢
  have Hc0 : Hid (∀ i, i < L → w.cell? ⟨b0, o0 + i, none⟩ = some (.int .u64 (ns.getD i 0))) := hc0
  have Hc1 : Hid (∀ i, i < L → w.cell? ⟨b1, o1 + i, none⟩ = some (.int .i64 (is.getD i 0))) := hc1
  have HL : Hid (L = ns.length) := hLn
  have HL2 : Hid (L = is.length) := hLi
  clear hlen hLn hLi hc0 hc1
  have Hw0 : Hid (∀ n ∈ ns, (Lit.int .u64 n).wf = true) := hw0
  have Hw1 : Hid (∀ n ∈ is, (Lit.int .i64 n).wf = true) := hw1
  clear hw0 hw1
  go_enter Try.func4, Try.ntmps4
  go_wp2_with (go_at_call 13; go_must (refine hby.mono ?_); rintro e w2 ⟨⟨b, rfl⟩, rfl⟩; cases b)
  · go_ret
    exact ⟨rfl, Below.refl _ _⟩
  clear hby
  go_loopw [6] (fun j wr => ∃ k : Nat, k ≤ L ∧ j = .int .i64 k ∧ wr.ownsMap Try.prog 24 (plainElem Try.prog 4) w2.heap.size k (seenD (ns.take k)) ∧ Tab.Fine ns is k ∧ Below w2.heap.size w2 wr) (fun j _ => L - (intOf j).toNat)
  case atStart => exact ⟨0, Nat.zero_le _, rfl, World.ownsMap_made _ _ _ _, fun t ht => by omega, (Below.refl _ _).alloc (Nat.le_refl _) _⟩
  case round =>
    obtain ⟨k, hk, rfl, hown, hfine, hbel⟩ := hrel
    by_cases hlt : k < L
    · obtain ⟨x, hx⟩ : ∃ x, x = ns.getD k 0 := ⟨_, rfl⟩
      obtain ⟨y, hy⟩ : ∃ y, y = is.getD k 0 := ⟨_, rfl⟩
      have q0 : wr.cell? ⟨b0, o0 + k, none⟩ = some (.int .u64 x) := by rw [hx]; exact (hbel.cell (by exact hb0)).trans (Hc0.out k hlt)
      have q1 : wr.cell? ⟨b1, o1 + k, none⟩ = some (.int .i64 y) := by rw [hy]; exact (hbel.cell (by exact hb1)).trans (Hc1.out k hlt)
      have hwx : (Lit.int .u64 x).wf = true := by
        rw [hx]
        have h := HL.out
        simp only [List.getD_eq_getElem?_getD, List.getElem?_eq_getElem (show k < ns.length by omega), Option.getD_some]
        exact Hw0.out _ (List.getElem_mem _)
      have hxb := bounds_u64 hwx
      have hlook := seen_look hown (x := x) hxb.1 (by omega)
      have hkey := key24 (n := x) hxb.1 (by omega)
      have HX : Hid (x = ns.getD k 0) := hx
      have HY : Hid (y = is.getD k 0) := hy
      have Hf : Hid (Tab.Fine ns is k) := hfine
      clear hx hy hwx hfine
      by_cases e1 : x = 0
      · have e1' : (x == 0) = true := by simpa using e1
        clear e1
        go_wp2
        go_ret
        exact ⟨rfl, hbel⟩
      · have e1' : (x == 0) = false := by simpa using e1
        clear e1
        by_cases e2 : y < 0
        · go_wp2
          go_ret
          exact ⟨rfl, hbel⟩
        · cases e3 : (ns.take k).contains x
          · rw [e3] at hlook
            have E3 : Hid ((ns.take k).contains x = false) := e3
            clear e3
            go_wp2_with (at_mapUpdate; go_must (refine wpList_mapUpdate_own _ rfl _ _ _ 33 rfl 24 4 law24 Try.underlying33 (plainElem (H := Unit) Try.prog 4) w2.heap.size k _ rfl hown (by unfold maxLen; omega) _ _ _ rfl rfl hkey _ [] (plainElem_bool Try.underlying4 true) ?_); intro w3 hown1 hgrow1)
            go_roundw
            case rel =>
              have hkn : k < ns.length := by have := HL.out; omega
              have e5 : ns.take (k + 1) = ns.take k ++ [x] := by
                rw [List.take_add_one, List.getElem?_eq_getElem hkn, HX.out]
                simp [List.getElem?_eq_getElem hkn]
              refine ⟨k + 1, by omega, by go_num, ?_, ?_, hbel.grown hgrow1 hbel.size (fun j hj => by cases hj; exact Nat.le_refl _)⟩
              · rw [e5, ← seenD_snoc]
                exact hown1
              · intro t ht
                by_cases etk : t = k
                · subst etk
                  rw [← HX.out, ← HY.out]
                  refine ⟨by simp at e1'; omega, by omega, fun u hu e => ?_⟩
                  have hm : x ∈ ns.take t := by
                    rw [← e, List.getD_eq_getElem?_getD, List.getElem?_eq_getElem (by omega), Option.getD_some]
                    exact List.mem_take_iff_getElem.2 ⟨u, by omega, rfl⟩
                  have := E3.out
                  simp [hm] at this
                · exact Hf.out t (by omega)
            case measure => simp [intOf]; omega
          · rw [e3] at hlook
            clear e3
            go_wp2
            go_ret
            exact ⟨rfl, hbel⟩
    · obtain rfl : k = L := by omega
      obtain ⟨L, rfl⟩ : ∃ L : Nat, L = k := ⟨_, rfl⟩
      have Hf : Hid (Tab.Fine ns is L) := hfine
      clear hfine hown hlt
      obtain ⟨wo, hwo⟩ : ∃ wo : World, wo = wr := ⟨_, rfl⟩
      have hbo : Below w2.heap.size w2 wo := by rw [hwo]; exact hbel
      rw [← hwo]
      clear hwo hbel hk
      go_wp2_with fail
      go_loopw [7, 8, 9, 10] (fun bn be nd j wr => ∃ (k : Nat) (a : Option Addr) (c : Nat) (mm : Option Nat), k ≤ L ∧ j = .int .i64 k ∧ nd = .int .i64 k ∧ be = .map mm ∧ bn = .slice a (Tab.run ns is k).1.length c ∧ wr.ownsRow w2.heap.size 3 1 (.slice a (Tab.run ns is k).1.length c) (Tab.run ns is k).1.length ((Tab.run ns is k).1.map (Value.int .i64)) ∧ IsMb w2.heap.size wr (.map mm) (Tab.run ns is k).2 ∧ Below w2.heap.size w2 wr) (fun _ _ _ j _ => L - (intOf j).toNat)
      case atStart => exact ⟨0, none, 0, none, Nat.zero_le _, rfl, rfl, rfl, rfl, World.ownsRow_nil _ _ _ _, .inl ⟨rfl, rfl⟩, hbo⟩
      case round =>
        obtain ⟨k, a, c, mm, hk, rfl, rfl, rfl, rfl, hrow, hmap, hbel⟩ := hrel
        by_cases hlt : k < L
        · obtain ⟨x, hx⟩ : ∃ x, x = ns.getD k 0 := ⟨_, rfl⟩
          obtain ⟨y, hy⟩ : ∃ y, y = is.getD k 0 := ⟨_, rfl⟩
          have q0 : wr.cell? ⟨b0, o0 + k, none⟩ = some (.int .u64 x) := by rw [hx]; exact (hbel.cell (by exact hb0)).trans (Hc0.out k hlt)
          have q1 : wr.cell? ⟨b1, o1 + k, none⟩ = some (.int .i64 y) := by rw [hy]; exact (hbel.cell (by exact hb1)).trans (Hc1.out k hlt)
          have hwx : (Lit.int .u64 x).wf = true := by
            rw [hx]
            have h := HL.out
            simp only [List.getD_eq_getElem?_getD, List.getElem?_eq_getElem (show k < ns.length by omega), Option.getD_some]
            exact Hw0.out _ (List.getElem_mem _)
          have hwy : (Lit.int .i64 y).wf = true := by
            rw [hy]
            have h := HL2.out
            simp only [List.getD_eq_getElem?_getD, List.getElem?_eq_getElem (show k < is.length by omega), Option.getD_some]
            exact Hw1.out _ (List.getElem_mem _)
          have hxb := bounds_u64 hwx
          obtain ⟨r1, r2, r3, r4, r5⟩ := Tab.run_law (ns := ns) (is := is) k (fun t ht => Hf.out t (by omega))
          obtain ⟨f1, f2, f3⟩ := Hf.out k hlt
          rw [← hx] at f1
          rw [← hy] at f2
          have hlen' := (Tab.add_len (Tab.run ns is k) k x y f1).2 (by omega)
          have E : Hid (Tab.run ns is (k + 1) = Tab.add (Tab.run ns is k) k x y) := by rw [hx, hy]; rfl
          clear hx hy r1 r2 r3 f3 hwx
          have R4 : Hid (Tab.cnt (Tab.run ns is k).1 + Maps.size (Tab.run ns is k).2 = k) := r4
          clear r4
          have hml : Maps.size (Tab.run ns is k).2 ≤ 1000000 := by have := R4.out; omega
          generalize Tab.run ns is k = s at *
          have hsz := hbel.size
          go_wp2_with fail
          go_region_held3 (fun w' => w'.cell? ⟨b0, o0 + k, none⟩ = some (.int .u64 x) ∧ w'.cell? ⟨b1, o1 + k, none⟩ = some (.int .i64 y)) (go_keep)
            ((go_at_call 11; refine (zzadd_calls w2.heap.size a c _ k x y s _ (by exact hrow) (by exact hmap) (by simp; omega) f1 (by omega) hwy (by omega) (by omega) hml).mono ?_; rintro e w4 ⟨a', c', m', rfl, hrow', hmap', hbel'⟩; obtain ⟨mm', hmm'⟩ := hmap'.shape; rw [hmm'] at hmap' ⊢; clear hmm'; have q2 := (hbel'.cell (p := ⟨b0, o0 + k, none⟩) (by exact hb0)).trans q0; have q3 := (hbel'.cell (p := ⟨b1, o1 + k, none⟩) (by exact hb1)).trans q1))
          go_wp2
          go_roundw
          case rel => exact ⟨k + 1, a', c', mm', by omega, by go_num, by go_num, rfl, by rw [E.out], by rw [E.out]; exact hrow', by rw [E.out]; exact hmap', hbel.drew.trans hbel'⟩
          case measure => simp [intOf]; omega
        · obtain rfl : k = L := by omega
          obtain ⟨r1, r2, r3, r4, r5⟩ := Tab.run_law (ns := ns) (is := is) k Hf.out
          have R2 : Hid (∀ t, t < k → Tab.look (Tab.run ns is k) (ns.getD t 0) = is.getD t 0) := r2
          have R1 : Hid (Tab.Ok (Tab.run ns is k)) := r1
          have R4 : Hid (Tab.cnt (Tab.run ns is k).1 + Maps.size (Tab.run ns is k).2 = k) := r4
          clear r1 r2 r3 r4 hlt hk
          generalize Tab.run ns is k = s at *
          obtain ⟨wp, hwp⟩ : ∃ wp : World, wp = wr := ⟨_, rfl⟩
          rw [← hwp] at hrow hmap hbel ⊢
          clear hwp hbo
          go_wp2_with fail
          go_loopw [11] (fun j wr => ∃ t : Nat, t ≤ k ∧ j = .int .i64 t ∧ wr.ownsRow w2.heap.size 3 1 (.slice a s.1.length c) s.1.length (s.1.map (Value.int .i64)) ∧ IsMb w2.heap.size wr (.map mm) s.2 ∧ Below w2.heap.size w2 wr) (fun j _ => k - (intOf j).toNat)
          case atStart => exact ⟨0, Nat.zero_le _, rfl, hrow, hmap, hbel⟩
          case round =>
            clear hrow hmap hbel
            obtain ⟨t, ht, rfl, hrow, hmap, hbel⟩ := hrel
            by_cases hlt : t < k
            · obtain ⟨x, hx⟩ : ∃ x, x = ns.getD t 0 := ⟨_, rfl⟩
              obtain ⟨y, hy⟩ : ∃ y, y = is.getD t 0 := ⟨_, rfl⟩
              have q0 : wr.cell? ⟨b0, o0 + t, none⟩ = some (.int .u64 x) := by rw [hx]; exact (hbel.cell (by exact hb0)).trans (Hc0.out t hlt)
              have q1 : wr.cell? ⟨b1, o1 + t, none⟩ = some (.int .i64 y) := by rw [hy]; exact (hbel.cell (by exact hb1)).trans (Hc1.out t hlt)
              have hxb : 0 ≤ x ∧ x ≤ 18446744073709551615 := by
                refine bounds_u64 ?_
                rw [hx]
                have h := HL.out
                simp only [List.getD_eq_getElem?_getD, List.getElem?_eq_getElem (show t < ns.length by omega), Option.getD_some]
                exact Hw0.out _ (List.getElem_mem _)
              have hcall : ∀ q, Calls Try.prog 10 #[.slice a s.1.length c, .map mm, .int .u64 x] (wr.drewN q) fun e w' => e = .returned (.int .i64 y) ∧ w' = wr.drewN q := by
                intro q
                have h := look_calls (w := wr.drewN q) x (reads_of_own hrow) (IsMb.isM hmap) (by omega) hxb.1 (by omega)
                rw [hx, R2.out t hlt, ← hy, ← hx] at h
                exact h
              have HC : Hid (∀ q, Calls Try.prog 10 #[.slice a s.1.length c, .map mm, .int .u64 x] (wr.drewN q) fun e w' => e = .returned (.int .i64 y) ∧ w' = wr.drewN q) := hcall
              clear hcall hx hy
              go_wp2_with fail
              go_quiet ((go_at_call 10; exact Calls.quiet_of_same (HC.out _)))
              go_wp2
              go_roundw
              case rel => exact ⟨t + 1, by omega, by go_num, hrow, hmap, below_drewN hbel nq⟩
              case measure => simp [intOf]; omega
            · obtain ⟨wq, hwq⟩ : ∃ wq : World, wq = wr := ⟨_, rfl⟩
              rw [← hwq] at hrow hmap hbel ⊢
              clear hwq
              have hlen := hmap.len
              have hR := reads_of_own hrow
              have hcl := Tab.cnt_le s.1
              go_wp2_with fail
              go_loop [12, 13] (fun p j => ∃ t : Nat, t ≤ s.1.length ∧ j = .int .i64 t ∧ p = .int .i64 (Tab.cnt (s.1.take t) : Nat)) (fun _ j => s.1.length - (intOf j).toNat)
              case atStart => exact ⟨0, Nat.zero_le _, rfl, by simp [Tab.cnt]⟩
              case round =>
                clear ht hlt
                obtain ⟨t, ht, rfl, rfl⟩ := hrel
                by_cases hlt2 : t < s.1.length
                · obtain ⟨b', off, hab, _, hcell⟩ := hR.cell.2 (by omega)
                  subst hab
                  obtain ⟨x, hx⟩ : ∃ x, x = s.1.getD t 0 := ⟨_, rfl⟩
                  have q0 : wq.cell? ⟨b', off + t, none⟩ = some (.int .i64 x) := by rw [hx]; exact hcell t hlt2
                  have hlow : -1 ≤ x := by rw [hx]; exact R1.out.low t hlt2
                  have hct := Tab.cnt_take s.1 t hlt2
                  rw [← hx] at hct
                  have HC : Hid (Tab.cnt (s.1.take (t + 1)) = Tab.cnt (s.1.take t) + if 0 ≤ x then 1 else 0) := hct
                  have hcb : Tab.cnt (s.1.take t) ≤ t := Nat.le_trans (Tab.cnt_le _) (List.length_take_le _ _)
                  clear hx hct hcell hlen hrow hmap
                  by_cases h0 : 0 ≤ x
                  · go_wp2
                    go_round
                    case rel => exact ⟨t + 1, by omega, by go_num, by rw [HC.out, if_pos h0]; go_num⟩
                    case measure => simp [intOf]; omega
                  · go_wp2
                    go_round
                    case rel => exact ⟨t + 1, by omega, by go_num, by rw [HC.out, if_neg h0]; go_num⟩
                    case measure => simp [intOf]; omega
                · obtain rfl : t = s.1.length := by omega
                  rw [List.take_length]
                  have hms : Maps.size s.2 ≤ 65536 := by have := R4.out; omega
                  have hfin : (((Tab.cnt s.1 : Nat) : Int) + ((Maps.size s.2 : Nat) : Int) == (k : Int)) = true := by
                    have := R4.out
                    rw [beq_iff_eq]
                    omega
                  go_wp2
                  go_ret
                  exact ⟨rfl, hbel⟩

end Go.Proofs.Qxb6601966a
