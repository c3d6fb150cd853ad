/-
  The law's bounds on its input (zzBytes, zzListsFit), and the clone (zzCloneLists).
-/
import Derived.Test.Qxb6603132aDoorHolds
namespace Go.Proofs.Qxb6603132aDoor
open Go Go.RowKit

/-- A slice of strings that came in. -/
structure InS where
  a : Option Addr
  c : Nat
  ss : List ByteArray
def s0 : InS := ⟨none, 0, []⟩
def SRd (B : Nat) (w : World) (a : Option Addr) (ss : List ByteArray) : Prop :=
  0 < ss.length → ∃ b off, a = some ⟨b, off, none⟩ ∧ b < B ∧ ∀ i, i < ss.length → w.cell? ⟨b, off + i, none⟩ = some (.string (ss.getD i ByteArray.empty))
/-- A slice of such slices. -/
def DSd (B : Nat) (w : World) (ad : Option Addr) (dl : List InS) : Prop :=
  0 < dl.length → ∃ b off, ad = some ⟨b, off, none⟩ ∧ b < B ∧ ∀ m, m < dl.length → w.cell? ⟨b, off + m, none⟩ = some (.slice (dl.getD m s0).a (dl.getD m s0).ss.length (dl.getD m s0).c) ∧ SRd B w (dl.getD m s0).a (dl.getD m s0).ss

theorem SRd.at {B : Nat} {w : World} {a : Option Addr} {ss : List ByteArray} (h : SRd B w a ss) {i : Nat} (hi : i < ss.length) : ∃ b off, a = some ⟨b, off, none⟩ ∧ b < B ∧ w.cell? ⟨b, off + i, none⟩ = some (.string (ss.getD i ByteArray.empty)) := by
  obtain ⟨b, off, e, hlt, hc⟩ := h (by omega)
  exact ⟨b, off, e, hlt, hc i hi⟩
theorem DSd.at {B : Nat} {w : World} {a : Option Addr} {dl : List InS} (h : DSd B w a dl) {m : Nat} (hm : m < dl.length) : ∃ b off, a = some ⟨b, off, none⟩ ∧ b < B ∧ w.cell? ⟨b, off + m, none⟩ = some (.slice (dl.getD m s0).a (dl.getD m s0).ss.length (dl.getD m s0).c) ∧ SRd B w (dl.getD m s0).a (dl.getD m s0).ss := by
  obtain ⟨b, off, e, hlt, hc⟩ := h (by omega)
  exact ⟨b, off, e, hlt, (hc m hm).1, (hc m hm).2⟩
theorem SRd.below {B : Nat} {w w' : World} {a : Option Addr} {ss : List ByteArray} (h : SRd B w a ss) (hb : Below B w w') : SRd B w' a ss := by
  intro hp
  obtain ⟨b, off, e, hlt, hc⟩ := h hp
  exact ⟨b, off, e, hlt, fun i hi => (hb.cell (by exact hlt)).trans (hc i hi)⟩
theorem DSd.below {B : Nat} {w w' : World} {a : Option Addr} {dl : List InS} (h : DSd B w a dl) (hb : Below B w w') : DSd B w' a dl := by
  intro hp
  obtain ⟨b, off, e, hlt, hc⟩ := h hp
  exact ⟨b, off, e, hlt, fun i hi => ⟨(hb.cell (by exact hlt)).trans (hc i hi).1, (hc i hi).2.below hb⟩⟩

/-- The lengths. -/
def lenOf (dl : List InS) (i : Nat) : Nat := (dl.getD i s0).ss.length

/-- What the walk is told of the input. -/
structure SIn (w : World) (ad : Option Addr) (N : Nat) (dl : List InS) : Prop where
  n : N = dl.length
  dr : DSd w.heap.size w ad dl
  ad : ad = none → dl = []
  nil : ∀ j, (dl.getD j s0).a = none → (dl.getD j s0).ss = []
  len : ∀ j, (dl.getD j s0).ss.length ≤ maxLen
  str : ∀ j i, ((dl.getD j s0).ss.getD i ByteArray.empty).size ≤ maxLen
  nm : N ≤ maxLen

def ABool (e : Ending) : Prop := ∃ b, e = .returned (.bool b)

set_option maxHeartbeats 1000000 in
theorem bytes_calls (ad : Option Addr) (N cd : Nat) (dl : List InS) (x : Int) (w : World) (hin : SIn w ad N dl) :
    Calls Tryd.prog 10 #[.slice ad N cd, .int .i64 x] w fun e w' => ABool e ∧ w' = w := by
  have HIn := hideS hin
  have hN := hin.nm
  unfold maxLen at hN
  clear hin
  by_cases h0 : (N : Int) ≤ 1048576
  · go_enter Tryd.func10, Tryd.ntmps10
    go_wp2_with fail
    go_loop [5, 6] (fun z j => ∃ t q : Nat, t ≤ N ∧ q ≤ 1048576 ∧ j = .int .i64 t ∧ z = .int .i64 q) (fun _ j => N - (intOf j).toNat)
    case atStart => exact ⟨0, N, Nat.zero_le _, by omega, rfl, rfl⟩
    case round =>
      obtain ⟨t, q, ht, hq, rfl, rfl⟩ := hrel
      by_cases hlt : t < N
      · obtain ⟨b, off, ra, hb, hc, hr⟩ := HIn.out.dr.at (m := t) (by have := HIn.out.n; omega)
        subst ra
        have hsz := HIn.out.len t
        unfold maxLen at hsz
        have Hr := hideS hr
        have Hst : Hid (∀ i, ((dl.getD t s0).ss.getD i ByteArray.empty).size ≤ maxLen) := hideS (HIn.out.str t)
        clear hr
        generalize (dl.getD t s0).a = ai at *
        generalize (dl.getD t s0).c = ci at *
        generalize (dl.getD t s0).ss = ss at *
        have hltI : (t : Int) < (N : Int) := by omega
        by_cases k1 : (ss.length : Int) ≤ 1048576
        · by_cases k2 : (q : Int) + (ss.length : Int) ≤ 1048576
          · go_wp2_with fail
            go_loop [5, 7] (fun z j => ∃ i p : Nat, i ≤ ss.length ∧ p ≤ 1048576 ∧ j = .int .i64 i ∧ z = .int .i64 p) (fun _ j => ss.length - (intOf j).toNat)
            case atStart => exact ⟨0, q + ss.length, Nat.zero_le _, by omega, rfl, by go_num⟩
            case round =>
              obtain ⟨i, p, hi, hp, rfl, rfl⟩ := hrel
              by_cases hlti : i < ss.length
              · obtain ⟨b1, o1, ra1, hb1, hc1⟩ := Hr.out.at hlti
                subst ra1
                have hs1 := Hst.out i
                unfold maxLen at hs1
                generalize ss.getD i ByteArray.empty = s at *
                have hltiI : (i : Int) < (ss.length : Int) := by omega
                by_cases k3 : (s.size : Int) ≤ 1048576
                · by_cases k4 : (p : Int) + (s.size : Int) ≤ 1048576
                  · go_wp2
                    go_round
                    case rel => exact ⟨i + 1, p + s.size, by omega, by omega, by go_num, by go_num⟩
                    case measure => simp [intOf]; omega
                  · go_wp2
                    go_ret
                    exact ⟨⟨_, rfl⟩, rfl⟩
                · go_wp2
                  go_ret
                  exact ⟨⟨_, rfl⟩, rfl⟩
              · go_wp2
                go_round
                case rel => exact ⟨t + 1, p, by omega, by omega, by go_num, by go_num⟩
                case measure => simp [intOf]; omega
          · go_wp2
            go_ret
            exact ⟨⟨_, rfl⟩, rfl⟩
        · go_wp2
          go_ret
          exact ⟨⟨_, rfl⟩, rfl⟩
      · go_wp2
        go_ret
        exact ⟨⟨_, rfl⟩, rfl⟩
  · go_enter Tryd.func10, Tryd.ntmps10
    go_wp2
    go_ret
    exact ⟨⟨_, rfl⟩, rfl⟩

/-- The strings of the first n lists have at most 1<<20 bytes. -/
def ShortS (dl : List InS) (n : Nat) : Prop := ∀ j, j < n → ∀ i, i < lenOf dl j → ((dl.getD j s0).ss.getD i ByteArray.empty).size ≤ 1048576
/-- What zzListsFit answers. -/
def FitPost (dl : List InS) (N : Nat) (e : Ending) : Prop := ∃ (b : Bool) (t : Nat), e = .returned (.tuple #[.bool b, .int .i64 (t : Int)]) ∧ (b = true → N ≤ 65536 ∧ t = Wd.sm (lenOf dl) 0 N ∧ ShortS dl N) ∧ t ≤ 2000000

set_option maxHeartbeats 1000000 in
theorem fit_calls (ad : Option Addr) (N cd : Nat) (dl : List InS) (w : World) (hin : SIn w ad N dl) :
    Calls Tryd.prog 11 #[.slice ad N cd] w fun e w' => FitPost dl N e ∧ w' = w := by
  have HIn := hideS hin
  have hN := hin.nm
  unfold maxLen at hN
  clear hin
  by_cases h0 : (N : Int) ≤ 65536
  · by_cases h1 : 24 * (N : Int) ≤ 1048576
    · go_enter Tryd.func11, Tryd.ntmps11
      go_wp2_with fail
      go_loop [4, 5, 20] (fun z y j => ∃ t q p : Nat, t ≤ N ∧ q ≤ 1048576 ∧ p ≤ q ∧ j = .int .i64 t ∧ z = .int .i64 q ∧ y = .int .i64 p ∧ Hid (p = Wd.sm (lenOf dl) 0 t) ∧ Hid (ShortS dl t)) (fun _ _ j => N - (intOf j).toNat)
      case atStart => exact ⟨0, 24 * N, 0, Nat.zero_le _, by omega, Nat.zero_le _, rfl, by go_num, rfl, hideS rfl, hideS (fun j hj => by omega)⟩
      case round =>
        obtain ⟨t, q, p, ht, hq, hpq, rfl, rfl, rfl, Hp, Hsh⟩ := hrel
        by_cases hlt : t < N
        · obtain ⟨b, off, ra, hb, hc, hr⟩ := HIn.out.dr.at (m := t) (by have := HIn.out.n; omega)
          subst ra
          have hsz := HIn.out.len t
          unfold maxLen at hsz
          have Hr := hideS hr
          have Hst : Hid (∀ i, ((dl.getD t s0).ss.getD i ByteArray.empty).size ≤ maxLen) := hideS (HIn.out.str t)
          have Hl : Hid (lenOf dl t = (dl.getD t s0).ss.length) := hideS rfl
          have Hnew : Hid ((∀ i, i < (dl.getD t s0).ss.length → ((dl.getD t s0).ss.getD i ByteArray.empty).size ≤ 1048576) → ShortS dl (t + 1)) := hideS (fun h j hj i hi => by
            by_cases e : j = t
            · subst e
              exact h i hi
            · exact Hsh.out j (by omega) i hi)
          clear hr
          generalize (dl.getD t s0).a = ai at *
          generalize (dl.getD t s0).c = ci at *
          generalize (dl.getD t s0).ss = ss at *
          have hltI : (t : Int) < (N : Int) := by omega
          by_cases k1 : (ss.length : Int) ≤ 65536
          · by_cases k2 : (q : Int) + 16 * (ss.length : Int) ≤ 1048576
            · go_wp2_with fail
              go_loop [4, 40] (fun z j => ∃ i r : Nat, i ≤ ss.length ∧ r ≤ 1048576 ∧ q + 16 * ss.length ≤ r ∧ j = .int .i64 i ∧ z = .int .i64 r ∧ Hid (∀ x, x < i → (ss.getD x ByteArray.empty).size ≤ 1048576)) (fun _ j => ss.length - (intOf j).toNat)
              case atStart => exact ⟨0, q + 16 * ss.length, Nat.zero_le _, by omega, Nat.le_refl _, rfl, by go_num, hideS (fun x hx => by omega)⟩
              case round =>
                obtain ⟨i, r, hi, hr1, hr2, rfl, rfl, Hin⟩ := hrel
                by_cases hlti : i < ss.length
                · have Hin2 : Hid ((ss.getD i ByteArray.empty).size ≤ 1048576 → ∀ x, x < i + 1 → (ss.getD x ByteArray.empty).size ≤ 1048576) := hideS (fun h x hx => by
                    by_cases e : x = i
                    · rw [e]; exact h
                    · exact Hin.out x (by omega))
                  obtain ⟨b1, o1, ra1, hb1, hc1⟩ := Hr.out.at hlti
                  subst ra1
                  have hs1 := Hst.out i
                  unfold maxLen at hs1
                  generalize ss.getD i ByteArray.empty = s at *
                  have hltiI : (i : Int) < (ss.length : Int) := by omega
                  by_cases k3 : (s.size : Int) ≤ 1048576
                  · by_cases k4 : (r : Int) + (s.size : Int) ≤ 1048576
                    · go_wp2
                      go_round
                      case rel => exact ⟨i + 1, r + s.size, by omega, by omega, by omega, by go_num, by go_num, hideS (Hin2.out (by omega))⟩
                      case measure => simp [intOf]; omega
                    · go_wp2
                      go_ret2
                      exact ⟨⟨false, 0, rfl, fun h => (by cases h), by omega⟩, rfl⟩
                  · go_wp2
                    go_ret2
                    exact ⟨⟨false, 0, rfl, fun h => (by cases h), by omega⟩, rfl⟩
                · go_wp2
                  go_round
                  case rel => exact ⟨t + 1, r, p + ss.length, by omega, by omega, by omega, by go_num, by go_num, by go_num, hideS (by rw [Wd.sm, ← Hp.out, Nat.zero_add, Hl.out]), hideS (Hnew.out (fun x hx => Hin.out x (by omega)))⟩
                  case measure => simp [intOf]; omega
            · go_wp2
              go_ret2
              exact ⟨⟨false, 0, rfl, fun h => (by cases h), by omega⟩, rfl⟩
          · go_wp2
            go_ret2
            exact ⟨⟨false, 0, rfl, fun h => (by cases h), by omega⟩, rfl⟩
        · obtain rfl : t = N := by omega
          go_wp2
          go_ret2
          exact ⟨⟨true, p, rfl, fun _ => ⟨by omega, Hp.out, Hsh.out⟩, by omega⟩, rfl⟩
    · go_enter Tryd.func11, Tryd.ntmps11
      go_wp2
      go_ret2
      exact ⟨⟨false, 0, rfl, fun h => (by cases h), by omega⟩, rfl⟩
  · go_enter Tryd.func11, Tryd.ntmps11
    go_wp2
    go_ret2
    exact ⟨⟨false, 0, rfl, fun h => (by cases h), by omega⟩, rfl⟩

end Go.Proofs.Qxb6603132aDoor
