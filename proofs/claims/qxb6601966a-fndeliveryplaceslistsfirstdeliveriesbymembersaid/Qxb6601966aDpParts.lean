/-
  The small functions of the two laws on deliveryPlaces: the bounds on size, the premise, the accessors.
-/
import Derived.Test.Qxb6601966aPlaces
import Derived.BigQuiet
import Derived.Deep.QuietTactic
namespace Go.Proofs.Qxb6601966a
open Go Go.RowKit

def ABool (e : Ending) : Prop := ∃ b, e = .returned (.bool b)

set_option maxHeartbeats 1000000 in
theorem bytes_lists (n : Int) (am ad : Option Addr) (K cm D cd : Nat) (dl : List Inn) (w : World) (hK : K ≤ maxLen) (hDl : D = dl.length) (hD : D ≤ maxLen) (hd : DRd w.heap.size w ad dl) (hs : ∀ j, (dl.getD j d0).zs.length ≤ maxLen) :
    Calls Try.prog 27 #[.int .i64 n, .slice am K cm, .slice ad D cd] w fun e w' => ABool e ∧ w' = w := by
  have HD := hide3 hDl
  have HS := hide3 hs
  have Hd := hide3 hd
  clear hDl hs hd
  unfold maxLen at hK hD
  by_cases h0 : (K : Int) ≤ 1048576
  · by_cases h1 : (D : Int) ≤ 1048576
    · by_cases h2 : (K : Int) + (D : Int) ≤ 1048576
      · go_enter Try.func27, Try.ntmps27
        go_wp2
        go_loop [7, 8] (fun z j => ∃ t q : Nat, t ≤ D ∧ q ≤ 1048576 ∧ j = .int .i64 t ∧ z = .int .i64 q) (fun _ j => D - (intOf j).toNat)
        case atStart => exact ⟨0, K + D, Nat.zero_le _, by omega, rfl, by go_num⟩
        case round =>
          obtain ⟨t, q, ht, hq, rfl, rfl⟩ := hrel
          by_cases hlt : t < D
          · obtain ⟨b, off, ra, hb, hc, _⟩ := Hd.out.at (m := t) (by have := HD.out; omega)
            subst ra
            have hsz := HS.out t
            unfold maxLen at hsz
            generalize (dl.getD t d0).a = ai at *
            generalize (dl.getD t d0).c = ci at *
            generalize (dl.getD t d0).zs.length = li at *
            have hltI : (t : Int) < (D : Int) := by omega
            by_cases k1 : (li : Int) ≤ 1048576
            · by_cases k2 : (q : Int) + (li : Int) ≤ 1048576
              · go_wp2
                go_round
                case rel => exact ⟨t + 1, q + li, by omega, by omega, by go_num, by go_num⟩
                case measure => simp [intOf]; omega
              · go_wp2
                go_ret
                exact ⟨⟨_, rfl⟩, rfl⟩
            · go_wp2
              go_ret
              exact ⟨⟨_, rfl⟩, rfl⟩
          · go_wp2
            go_ret
            exact ⟨⟨_, rfl⟩, rfl⟩
      · go_enter Try.func27, Try.ntmps27
        go_wp2
        go_ret
        exact ⟨⟨_, rfl⟩, rfl⟩
    · by_cases h2 : (K : Int) ≤ 1048576
      · go_enter Try.func27, Try.ntmps27
        go_wp2
        go_ret
        exact ⟨⟨_, rfl⟩, rfl⟩
      · omega
  · go_enter Try.func27, Try.ntmps27
    go_wp2
    go_ret
    exact ⟨⟨_, rfl⟩, rfl⟩

set_option maxHeartbeats 1000000 in
theorem bytes_ignore (n : Int) (am ad : Option Addr) (K cm D cd : Nat) (dl : List Inn) (w : World) (hK : K ≤ maxLen) (hDl : D = dl.length) (hD : D ≤ maxLen) (hd : DRd w.heap.size w ad dl) (hs : ∀ j, (dl.getD j d0).zs.length ≤ maxLen) :
    Calls Try.prog 32 #[.int .i64 n, .slice am K cm, .slice ad D cd] w fun e w' => ABool e ∧ w' = w := by
  have HD := hide3 hDl
  have HS := hide3 hs
  have Hd := hide3 hd
  clear hDl hs hd
  unfold maxLen at hK hD
  by_cases h0 : (K : Int) ≤ 1048576
  · by_cases h1 : (D : Int) ≤ 1048576
    · by_cases h2 : (K : Int) + (D : Int) ≤ 1048576
      · go_enter Try.func32, Try.ntmps32
        go_wp2
        go_loop [7, 8] (fun z j => ∃ t q : Nat, t ≤ D ∧ q ≤ 1048576 ∧ j = .int .i64 t ∧ z = .int .i64 q) (fun _ j => D - (intOf j).toNat)
        case atStart => exact ⟨0, K + D, Nat.zero_le _, by omega, rfl, by go_num⟩
        case round =>
          obtain ⟨t, q, ht, hq, rfl, rfl⟩ := hrel
          by_cases hlt : t < D
          · obtain ⟨b, off, ra, hb, hc, _⟩ := Hd.out.at (m := t) (by have := HD.out; omega)
            subst ra
            have hsz := HS.out t
            unfold maxLen at hsz
            generalize (dl.getD t d0).a = ai at *
            generalize (dl.getD t d0).c = ci at *
            generalize (dl.getD t d0).zs.length = li at *
            have hltI : (t : Int) < (D : Int) := by omega
            by_cases k1 : (li : Int) ≤ 1048576
            · by_cases k2 : (q : Int) + (li : Int) ≤ 1048576
              · go_wp2
                go_round
                case rel => exact ⟨t + 1, q + li, by omega, by omega, by go_num, by go_num⟩
                case measure => simp [intOf]; omega
              · go_wp2
                go_ret
                exact ⟨⟨_, rfl⟩, rfl⟩
            · go_wp2
              go_ret
              exact ⟨⟨_, rfl⟩, rfl⟩
          · go_wp2
            go_ret
            exact ⟨⟨_, rfl⟩, rfl⟩
      · go_enter Try.func32, Try.ntmps32
        go_wp2
        go_ret
        exact ⟨⟨_, rfl⟩, rfl⟩
    · by_cases h2 : (K : Int) ≤ 1048576
      · go_enter Try.func32, Try.ntmps32
        go_wp2
        go_ret
        exact ⟨⟨_, rfl⟩, rfl⟩
      · omega
  · go_enter Try.func32, Try.ntmps32
    go_wp2
    go_ret
    exact ⟨⟨_, rfl⟩, rfl⟩

/-- What innerBytes answers. -/
def InnerPost (dl : List Inn) (e : Ending) : Prop := ∃ r : Int, e = .returned (.int .i64 r) ∧ (r ≤ 1048576 → ∀ j, j < dl.length → (dl.getD j d0).zs.length ≤ 131072)

set_option maxHeartbeats 1000000 in
theorem inner_calls (ad : Option Addr) (q0 D cd : Nat) (dl : List Inn) (w : World) (hq0 : q0 ≤ 10000000) (hDl : D = dl.length) (hD : D ≤ 131072) (hd : DRd w.heap.size w ad dl) (hs : ∀ j, (dl.getD j d0).zs.length ≤ maxLen) :
    Calls Try.prog 20 #[.int .i64 (q0 : Int), .slice ad D cd] w fun e w' => InnerPost dl e ∧ w' = w := by
  have HD := hide3 hDl
  have HS := hide3 hs
  have Hd := hide3 hd
  clear hDl hs hd
  go_enter Try.func20, Try.ntmps20
  go_wp2
  go_loop [0, 5] (fun z j => ∃ t q : Nat, t ≤ D ∧ q ≤ 10000000 ∧ j = .int .i64 t ∧ z = .int .i64 q ∧ ∀ i, i < t → (dl.getD i d0).zs.length ≤ 131072) (fun _ j => D - (intOf j).toNat)
  case atStart => exact ⟨0, q0, Nat.zero_le _, by omega, rfl, rfl, fun i hi => by omega⟩
  case round =>
    obtain ⟨t, q, ht, hq, rfl, rfl, hall⟩ := hrel
    have Hall := hide3 hall
    clear hall
    by_cases hlt : t < D
    · obtain ⟨b, off, ra, hb, hc, _⟩ := Hd.out.at (m := t) (by have := HD.out; omega)
      subst ra
      have hsz := HS.out t
      unfold maxLen at hsz
      obtain ⟨li, hli⟩ : ∃ li, li = (dl.getD t d0).zs.length := ⟨_, rfl⟩
      rw [← hli] at hc hsz
      have Hli := hide3 hli
      clear hli
      generalize (dl.getD t d0).a = ai at *
      generalize (dl.getD t d0).c = ci at *
      have hltI : (t : Int) < (D : Int) := by omega
      by_cases k1 : (li : Int) ≤ 131072
      · by_cases k2 : (q : Int) + 8 * (li : Int) ≤ 1048576
        · go_wp2
          go_round
          case rel =>
            refine ⟨t + 1, q + 8 * li, by omega, by omega, by go_num, by go_num, fun i hi => ?_⟩
            by_cases e : i = t
            · subst e
              have := Hli.out
              omega
            · exact Hall.out i (by omega)
          case measure => simp [intOf]; omega
        · go_wp2
          go_ret
          exact ⟨⟨_, rfl, fun h => by omega⟩, rfl⟩
      · go_wp2
        go_ret
        exact ⟨⟨_, rfl, fun h => by omega⟩, rfl⟩
    · go_wp2
      go_ret
      exact ⟨⟨_, rfl, fun _ j hj => Hall.out j (by have := HD.out; omega)⟩, rfl⟩

/-- What the premise answers. -/
def OkM (n : Nat) (dl : List Inn) (mz : List Int) : Prop := ∀ k, k < mz.length → 0 ≤ mz.getD k 0 ∧ mz.getD k 0 < dl.length ∧ InR n (dl.getD (mz.getD k 0).toNat d0).zs
def PremPost (n : Nat) (dl : List Inn) (mz : List Int) (e : Ending) : Prop := ∃ b : Bool, e = .returned (.bool b) ∧ (b = true → OkM n dl mz)

theorem InR.bound {n : Nat} {L : List Int} (h : ∀ i, i < L.length → 0 ≤ L.getD i 0 ∧ L.getD i 0 < n) : InR n L := by
  intro x hx
  obtain ⟨i, hi, rfl⟩ := List.mem_iff_getElem.1 hx
  have := h i hi
  rw [List.getD_eq_getElem?_getD, List.getElem?_eq_getElem hi, Option.getD_some] at this
  exact this

set_option maxHeartbeats 1000000 in
theorem premise_calls (n lim : Nat) (am ad : Option Addr) (K cm D cd : Nat) (dl : List Inn) (mz : List Int) (w : World) (hlim : lim ≤ 1048576) (hKl : K = mz.length) (hK : K ≤ 131072) (hm : RdL w.heap.size w am mz) (hDl : D = dl.length) (hd : DRd w.heap.size w ad dl)
    (hs : ∀ j, (dl.getD j d0).zs.length ≤ 2000000) : Calls Try.prog 28 #[.int .i64 (n : Int), .slice am K cm, .slice ad D cd, .int .i64 (lim : Int)] w fun e w' => PremPost n dl mz e ∧ w' = w := by
  have HD := hide3 hDl
  have HS := hide3 hs
  have Hd := hide3 hd
  have Hm := hide3 hm
  have HK := hide3 hKl
  clear hDl hs hd hm hKl
  go_enter Try.func28, Try.ntmps28
  go_wp2
  go_loop [9, 10] (fun z j => ∃ t q : Nat, t ≤ K ∧ q ≤ lim ∧ j = .int .i64 t ∧ z = .int .i64 q ∧ ∀ k, k < t → 0 ≤ mz.getD k 0 ∧ mz.getD k 0 < dl.length ∧ InR n (dl.getD (mz.getD k 0).toNat d0).zs) (fun _ j => K - (intOf j).toNat)
  case atStart => exact ⟨0, 0, Nat.zero_le _, by omega, rfl, rfl, fun i hi => by omega⟩
  case round =>
    obtain ⟨t, q, ht, hq, rfl, rfl, hall⟩ := hrel
    have Hall := hide3 hall
    clear hall
    by_cases hlt : t < K
    · obtain ⟨bm, om, ram, hbm, hcm⟩ := Hm.out.at (i := t) (by have := HK.out; omega)
      subst ram
      obtain ⟨x, hx⟩ : ∃ x, x = mz.getD t 0 := ⟨_, rfl⟩
      rw [← hx] at hcm
      have Hx := hide3 hx
      clear hx
      by_cases k0 : x < 0
      · go_wp2
        go_ret
        exact ⟨⟨false, rfl, fun h => by cases h⟩, rfl⟩
      · obtain ⟨m, rfl⟩ : ∃ m : Nat, x = (m : Int) := ⟨x.toNat, by omega⟩
        by_cases k1 : (m : Int) < (D : Int)
        · obtain ⟨b, off, ra, hb, hc, hr⟩ := Hd.out.at (m := m) (by have := HD.out; omega)
          subst ra
          have hsz := HS.out m
          have Hr := hide3 hr
          clear hr
          obtain ⟨L, hL⟩ : ∃ L, L = (dl.getD m d0).zs := ⟨_, rfl⟩
          rw [← hL] at hc Hr hsz
          have HL := hide3 hL
          clear hL
          generalize (dl.getD m d0).a = ai at *
          generalize (dl.getD m d0).c = ci at *
          have k0' : (0 : Int) ≤ (m : Int) := by omega
          by_cases k2 : (q : Int) + (L.length : Int) ≤ (lim : Int)
          · go_wp2
            go_loop [13] (fun j => ∃ a : Nat, a ≤ L.length ∧ j = .int .i64 a ∧ ∀ i, i < a → 0 ≤ L.getD i 0 ∧ L.getD i 0 < n) (fun j => L.length - (intOf j).toNat)
            case atStart => exact ⟨0, Nat.zero_le _, rfl, fun i hi => by omega⟩
            case round =>
              obtain ⟨a, ha, rfl, hin⟩ := hrel
              have Hin := hide3 hin
              clear hin
              by_cases hla : a < L.length
              · obtain ⟨b1, o1, ra1, hb1, hc1⟩ := Hr.out.at hla
                subst ra1
                obtain ⟨y, hy⟩ : ∃ y, y = L.getD a 0 := ⟨_, rfl⟩
                rw [← hy] at hc1
                have Hy := hide3 hy
                clear hy
                by_cases j0 : y < 0
                · go_wp2
                  go_ret
                  exact ⟨⟨false, rfl, fun h => by cases h⟩, rfl⟩
                · by_cases j1 : y < (n : Int)
                  · have j0' : 0 ≤ y := by omega
                    go_wp2
                    go_round
                    case rel =>
                      refine ⟨a + 1, by omega, by go_num, fun i hi => ?_⟩
                      by_cases e : i = a
                      · subst e
                        rw [← Hy.out]
                        exact ⟨j0', j1⟩
                      · exact Hin.out i (by omega)
                    case measure => simp [intOf]; omega
                  · go_wp2
                    go_ret
                    exact ⟨⟨false, rfl, fun h => by cases h⟩, rfl⟩
              · go_wp2
                go_round
                case rel =>
                  refine ⟨t + 1, q + L.length, by omega, by omega, by go_num, by go_num, fun k hk => ?_⟩
                  by_cases e : k = t
                  · subst e
                    rw [← Hx.out, Int.toNat_natCast, ← HL.out]
                    exact ⟨k0', by have := HD.out; omega, InR.bound (fun i hi => Hin.out i (by omega))⟩
                  · exact Hall.out k (by omega)
                case measure => simp [intOf]; omega
          · go_wp2
            go_ret
            exact ⟨⟨false, rfl, fun h => by cases h⟩, rfl⟩
        · go_wp2
          go_ret
          exact ⟨⟨false, rfl, fun h => by cases h⟩, rfl⟩
    · go_wp2
      go_ret
      exact ⟨⟨true, rfl, fun _ k hk => Hall.out k (by have := HK.out; omega)⟩, rfl⟩

/-- 31: the two fields. -/
theorem fields_calls (x y : Int) (w : World) : Calls Try.prog 31 #[.agg #[.int .i64 x, .int .i64 y]] w fun e w' => e = .returned (.tuple #[.int .i64 x, .int .i64 y]) ∧ Below w.heap.size w w' := by
  go_enter Try.func31, Try.ntmps31
  go_wp2_with fail
  have hnew := heap_alloc_new w (.cells #[.int .i64 x, .int .i64 y] 66)
  have hb : Below w.heap.size w (w.alloc (.cells #[.int .i64 x, .int .i64 y] 66)) := (Below.refl _ _).alloc (Nat.le_refl _) _
  have g0 : (w.alloc (.cells #[.int .i64 x, .int .i64 y] 66)).cell? ⟨w.heap.size, 0, none⟩ = some (.int .i64 x) := (cell_of_row _ w.heap.size 0 _ 66 _ hnew).trans (by simp)
  have g1 : (w.alloc (.cells #[.int .i64 x, .int .i64 y] 66)).cell? ⟨w.heap.size, 1, none⟩ = some (.int .i64 y) := (cell_of_row _ w.heap.size 1 _ 66 _ hnew).trans (by simp)
  have Hb := hide3 hb
  generalize w.alloc (.cells #[.int .i64 x, .int .i64 y] 66) = W at *
  clear hnew hb
  go_quiet (fail)
  go_wp2
  go_ret2
  have hb := Hb.out
  exact ⟨rfl, ⟨hb.os, hb.tape, hb.output, hb.size, hb.block⟩⟩

/-- 30: a History of three fields. -/
theorem newh_calls (an am ad : Option Addr) (n cn K cm D cd : Nat) (w : World) :
    Calls Try.prog 30 #[.slice an n cn, .slice am K cm, .slice ad D cd] w fun e w' => e = .returned (.pointer (some ⟨w.heap.size, 0, none⟩)) ∧ w'.cell? ⟨w.heap.size, 6, none⟩ = some (.slice ad D cd) ∧ w'.cell? ⟨w.heap.size, 11, none⟩ = some (.slice am K cm) ∧ w'.cell? ⟨w.heap.size, 12, none⟩ = some (.slice an n cn) ∧ w'.heap.size = w.heap.size + 1 ∧ Below w.heap.size w w' := by
  go_enter Try.func30, Try.ntmps30
  go_wp2
  go_ret
  refine ⟨rfl, ?_, ?_, ?_, by simp, (Below.refl _ _).alloc (Nat.le_refl _) _⟩ <;> exact (cell_of_row _ w.heap.size _ _ 71 _ (heap_alloc_new w _)).trans (by simp)

/-- 29: the walk of deliveryPlaces, its two rows read. -/
def Places2 (w : World) (n K : Nat) (Ls : Nat → List Int) (e : Ending) (w' : World) : Prop :=
  ∃ pb plb, e = .returned (.tuple #[.slice (some ⟨pb, 0, none⟩) (n + 1) (n + 1), .slice (some ⟨plb, 0, none⟩) (Dp.S (cN Ls K) n) (Dp.S (cN Ls K) n)]) ∧
    RowAt w' pb (n + 1) (fun x => (Dp.S (cN Ls K) x : Int)) ∧ PlAt w' plb n Ls K ∧ pb < w'.heap.size ∧ plb < w'.heap.size ∧ Below w.heap.size w w'

theorem places2_calls (hb n cd cm cn : Nat) (ad am an : Option Addr) (dl : List Inn) (ms : List Nat) (w : World) (hH : HC w w.heap.size hb n cd cm cn ad am an dl ms) (hok : OkIn n dl ms) :
    Calls Try.prog 29 #[.pointer (some ⟨hb, 0, none⟩)] w (Places2 w n ms.length (LsOf dl ms)) := by
  have hcall := hide3 (places_walk w.heap.size hb n cd cm cn ad am an dl ms w hH rfl hok)
  clear hH hok
  generalize LsOf dl ms = Ls at *
  generalize ms.length = K at *
  go_enter Try.func29, Try.ntmps29
  go_wp2_with fail
  refine hcall.out.mono ?_
  rintro e w1 ⟨db, pb, plb, rfl, h0, h1, hR, hP, _, hpb, hplb, hbl⟩
  have HR := hide3 hR
  have HP := hide3 hP
  have Hbl := hide3 hbl
  clear hcall hR hP hbl
  generalize hT : Dp.S (cN Ls K) n = T at *
  go_wp2_with fail
  go_quiet (fail)
  go_wp2
  go_ret2
  refine ⟨pb, plb, by rw [hT]; rfl, HR.out.drewN _, HP.out, hpb, hplb, ?_⟩
  have hb := Hbl.out
  exact ⟨hb.os, hb.tape, hb.output, hb.size, hb.block⟩

end Go.Proofs.Qxb6601966a
