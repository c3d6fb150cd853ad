/-
  (*History).deliveryPlaces: the walk of its first half: the counts, and their sums.
-/
import Derived.Test.Qxb6601966aOf
import Derived.Test.Qxb6601966aShift
import Derived.BigRegion
import Derived.Deep.RegionHeld3
import Derived.Handy
namespace Go.Proofs.Qxb6601966a
open Go Go.RowKit

theorem Keeps.drew {S : List Nat} {a b : World} (h : Keeps S a b) : Keeps S a b.drew := ⟨h.os, h.tape, h.output, h.size, h.block⟩
theorem i66 : (Try.prog.info? 66).map (fun i => (i.zero, i.size, i.bytes)) = some (some (.agg #[.int .i64 0, .int .i64 0]), 2, 16) := by kernel_rfl

/-- 'make([]deliveryPlace, T)'. -/
theorem make66 (T : Nat) (hT : T ≤ 8589934592) : ∃ cs : Array Value, cs.size = T * 2 ∧ ∀ W : World, (Instr.makeSlice 58 (.int .i64 (T : Int)) (.int .i64 (T : Int))).run Try.prog W = .ok (.slice (some ⟨W.heap.size, 0, none⟩) T T) (W.alloc (.cells cs 66)) := by
  obtain ⟨i0, hi, hz0, hz1, hz2⟩ := info_parts i66
  refine ⟨madeCells (Value.agg #[.int .i64 0, .int .i64 0]).cells (T * 2), size_madeCells _ _, fun W => ?_⟩
  have h := run_make (P := Try.prog) W 58 66 i0 (.agg #[.int .i64 0, .int .i64 0]) Try.underlying58 hi hz0 .i64 .i64 (T : Int) (T : Int) (by omega) (Int.le_refl _) (by rw [hz2]; omega) (by omega)
  rw [hz1] at h
  simpa using h

/-- placed while the places are counted. -/
def cntG (Ls : Nat → List Int) (k a x : Nat) : Int := if x = 0 then 0 else ((Dp.Fka Ls k a ((x - 1 : Nat) : Int)).length : Int)

theorem cntG_new (Ls : Nat → List Int) {k a y : Nat} (h : a < (Ls k).length) (hy : (Ls k).getD a 0 = (y : Int)) (hm : (y : Int) ∉ (Ls k).take a) (x : Nat) :
    (if x = y + 1 then cntG Ls k a (y + 1) + 1 else cntG Ls k a x) = cntG Ls k (a + 1) x := by
  unfold cntG
  have hn := Dp.Fka_new Ls k a h (by rw [hy]; exact hm)
  rw [hy] at hn
  by_cases e : x = y + 1
  · subst e
    simp [hn]
  · rw [if_neg e]
    by_cases e0 : x = 0
    · simp [e0]
    · rw [if_neg e0, if_neg e0, Dp.Fka_other Ls k a h _ (by rw [hy]; omega)]
theorem cntG_old (Ls : Nat → List Int) {k a y : Nat} (h : a < (Ls k).length) (hy : (Ls k).getD a 0 = (y : Int)) (hm : (y : Int) ∈ (Ls k).take a) (x : Nat) : cntG Ls k a x = cntG Ls k (a + 1) x := by
  unfold cntG
  rw [Dp.Fka_old Ls k a h (by rw [hy]; exact hm)]
theorem cntG_end (Ls : Nat → List Int) {k a : Nat} (h : (Ls k).length ≤ a) (x : Nat) : cntG Ls k a x = cntG Ls (k + 1) 0 x := by
  unfold cntG
  rw [Dp.Fka_end Ls k a h, Dp.Fka_zero]
theorem cntG_bound (Ls : Nat → List Int) (k a x : Nat) : 0 ≤ cntG Ls k a x ∧ cntG Ls k a x ≤ k + 1 := by
  unfold cntG
  split
  · omega
  · have h1 := Dp.Fka_le Ls ((x - 1 : Nat) : Int) k a (k + 1) (by omega)
    have h2 := Dp.Fk_bound Ls ((x - 1 : Nat) : Int) (k + 1)
    omega

/-- What the History's block says of a call: delivered, members, msgs. -/
structure HC (w : World) (B hb n cd cm cn : Nat) (ad am an : Option Addr) (dl : List Inn) (ms : List Nat) : Prop where
  c6 : w.cell? ⟨hb, 6, none⟩ = some (.slice ad dl.length cd)
  c11 : w.cell? ⟨hb, 11, none⟩ = some (.slice am ms.length cm)
  c12 : w.cell? ⟨hb, 12, none⟩ = some (.slice an n cn)
  dr : DRd B w ad dl
  mr : RdL B w am (ms.map fun m : Nat => (m : Int))
  hbB : hb < B

theorem HC.below {w w' : World} {B h n cd cm cn : Nat} {ad am an : Option Addr} {dl : List Inn} {ms : List Nat} (hc : HC w B h n cd cm cn ad am an dl ms) (hb : Below B w w') : HC w' B h n cd cm cn ad am an dl ms :=
  ⟨(hb.cell (p := ⟨h, 6, none⟩) hc.hbB).trans hc.c6, (hb.cell (p := ⟨h, 11, none⟩) hc.hbB).trans hc.c11, (hb.cell (p := ⟨h, 12, none⟩) hc.hbB).trans hc.c12, hc.dr.below hb, hc.mr.below hb, hc.hbB⟩

/-- What the law's premise says of its input. -/
structure OkIn (n : Nat) (dl : List Inn) (ms : List Nat) : Prop where
  mem : ∀ k, k < ms.length → ms.getD k 0 < dl.length ∧ InR n (dl.getD (ms.getD k 0) d0).zs
  len : ∀ j, (dl.getD j d0).zs.length ≤ 2000000
  ml : ms.length ≤ 131072
  nl : n ≤ 65536
  dll : dl.length ≤ 131072

/-- The log of member k. -/
def LsOf (dl : List Inn) (ms : List Nat) (k : Nat) : List Int := (dl.getD (ms.getD k 0) d0).zs

/-- The firstDeliveries struct and its row, between two calls of 'of'. -/
def FSt (w : World) (fb hb ab n : Nat) (dl : List Inn) : Prop :=
  ∃ mem L0, FD w fb hb ab n mem ∧ RowAt w ab n (fun x => Dp.fst L0 x) ∧ ((mem = -1 ∧ L0 = []) ∨ ∃ k : Nat, mem = (k : Int) ∧ k < dl.length ∧ L0 = (dl.getD k d0).zs ∧ InR n L0)

theorem FSt.keeps {S : List Nat} {w w' : World} {fb hb ab n : Nat} {dl : List Inn} (h : FSt w fb hb ab n dl) (hk : Keeps S w w') (hS : fb ∉ S) (hA : ab ∉ S) : FSt w' fb hb ab n dl := by
  obtain ⟨mem, L0, h1, h2, h3⟩ := h
  exact ⟨mem, L0, h1.keeps hk hS, h2.keeps hk hA, h3⟩

theorem FSt.below {B : Nat} {w w' : World} {fb hb ab n : Nat} {dl : List Inn} (h : FSt w fb hb ab n dl) (hk : Below B w w') (hS : fb < B) (hA : ab < B) : FSt w' fb hb ab n dl := by
  obtain ⟨mem, L0, h1, h2, h3⟩ := h
  exact ⟨mem, L0, ⟨(hk.cell (p := ⟨fb, 0, none⟩) hS).trans h1.f0, (hk.cell (p := ⟨fb, 1, none⟩) hS).trans h1.f1, (hk.cell (p := ⟨fb, 2, none⟩) hS).trans h1.f2, (hk.frozen (p := ⟨fb, 1, none⟩) hS).trans h1.z1⟩, h2.below hk hA, h3⟩

/-- 'of', from whatever state. -/
theorem of_any (B hb fb ab n cd : Nat) (ad : Option Addr) (dl : List Inn) (m : Nat) (w : World) (hd : DRd B w ad dl) (c6 : w.cell? ⟨hb, 6, none⟩ = some (.slice ad dl.length cd)) (hhb : hb < B) (hab : B ≤ ab) (hfb : B ≤ fb) (hne : fb ≠ ab)
    (hF : FSt w fb hb ab n dl) (hm : m < dl.length) (hLm : InR n (dl.getD m d0).zs) (hlen : ∀ k, (dl.getD k d0).zs.length ≤ 2000000) :
    Calls Try.prog 37 #[.pointer (some ⟨fb, 0, none⟩), .int .i64 (m : Int)] w fun e w' => e = .returned (.slice (some ⟨ab, 0, none⟩) n n) ∧ RowAt w' ab n (fun x => Dp.fst (dl.getD m d0).zs x) ∧ FD w' fb hb ab n m ∧ Keeps [ab, fb] w w' := by
  obtain ⟨mem, L0, h1, h2, h3⟩ := hF
  exact of_calls B hb fb ab n cd ad dl mem L0 m w hd c6 hhb hab hfb hne h1 h2 h3 hm hLm hlen

theorem FSt.mk' {w : World} {fb hb ab n m : Nat} {dl : List Inn} (h1 : FD w fb hb ab n m) (h2 : RowAt w ab n (fun x => Dp.fst (dl.getD m d0).zs x)) (hm : m < dl.length) (hL : InR n (dl.getD m d0).zs) : FSt w fb hb ab n dl :=
  ⟨m, _, h1, h2, .inr ⟨m, rfl, hm, rfl, hL⟩⟩

/-- How many places message x has in the end. -/
def cN (Ls : Nat → List Int) (K : Nat) (x : Nat) : Nat := (Dp.Fk Ls K (x : Int)).length

/-- The places row: each message's places stand where its places begin. -/
def PlAt (w : World) (plb n : Nat) (Ls : Nat → List Int) (K : Nat) : Prop :=
  ∀ x j, x < n → j < cN Ls K x → w.cell? ⟨plb, (Dp.S (cN Ls K) x + j) * 2, none⟩ = some (.int .i64 ((Dp.Fk Ls K (x : Int)).getD j (0, 0)).1) ∧ w.cell? ⟨plb, (Dp.S (cN Ls K) x + j) * 2 + 1, none⟩ = some (.int .i64 ((Dp.Fk Ls K (x : Int)).getD j (0, 0)).2)

/-- placed while the counts are summed. -/
def sumG (c : Nat → Nat) (t x : Nat) : Int := if x ≤ t then (Dp.S c x : Int) else (c (x - 1) : Int)
theorem sumG_start (Ls : Nat → List Int) (K x : Nat) : cntG Ls K 0 x = sumG (cN Ls K) 0 x := by
  unfold cntG sumG cN
  by_cases e : x = 0
  · simp [e, Dp.S]
  · rw [if_neg e, if_neg (by omega), Dp.Fka_zero]
theorem sumG_step (c : Nat → Nat) (t x : Nat) : (if x = t + 1 then (c t : Int) + (Dp.S c t : Int) else sumG c t x) = sumG c (t + 1) x := by
  unfold sumG
  by_cases e : x = t + 1
  · subst e
    rw [if_pos rfl, if_pos (Nat.le_refl _), Dp.S]
    omega
  · rw [if_neg e]
    by_cases h : x ≤ t
    · rw [if_pos h, if_pos (by omega)]
    · rw [if_neg h, if_neg (by omega)]
theorem S_bound {c : Nat → Nat} {K : Nat} (h : ∀ x, c x ≤ K) : ∀ n, Dp.S c n ≤ n * K
  | 0 => by simp [Dp.S]
  | n + 1 => by
    have := S_bound h n
    have := h n
    rw [Dp.S, Nat.succ_mul]
    omega
theorem cN_le (Ls : Nat → List Int) (K x : Nat) : cN Ls K x ≤ K := Dp.Fk_bound Ls x K
theorem S_small (Ls : Nat → List Int) {K n x : Nat} (hK : K ≤ 131072) (hn : n ≤ 65536) (hx : x ≤ n) : Dp.S (cN Ls K) x ≤ 8589934592 := by
  have h1 := S_bound (cN_le Ls K) x
  have h2 : x * K ≤ 65536 * 131072 := Nat.mul_le_mul (by omega) hK
  omega

/-- placed while the places are filled. -/
def fillG (Ls : Nat → List Int) (K n k a x : Nat) : Int := if x < n then ((Dp.S (cN Ls K) x + (Dp.Fka Ls k a (x : Int)).length : Nat) : Int) else (Dp.S (cN Ls K) n : Int)
theorem fillG_start (Ls : Nat → List Int) (K n x : Nat) (hx : x < n + 1) : sumG (cN Ls K) n x = fillG Ls K n 0 0 x := by
  unfold sumG fillG
  rw [if_pos (by omega)]
  by_cases h : x < n
  · rw [if_pos h]; simp [Dp.Fka, Dp.Fk]
  · rw [if_neg h, show x = n by omega]
theorem fillG_old (Ls : Nat → List Int) (K n : Nat) {k a y : Nat} (h : a < (Ls k).length) (hy : (Ls k).getD a 0 = (y : Int)) (hm : (y : Int) ∈ (Ls k).take a) (x : Nat) : fillG Ls K n k a x = fillG Ls K n k (a + 1) x := by
  unfold fillG
  rw [Dp.Fka_old Ls k a h (by rw [hy]; exact hm)]
theorem fillG_end (Ls : Nat → List Int) (K n : Nat) {k a : Nat} (h : (Ls k).length ≤ a) (x : Nat) : fillG Ls K n k a x = fillG Ls K n (k + 1) 0 x := by
  unfold fillG
  rw [Dp.Fka_end Ls k a h, Dp.Fka_zero]
theorem fillG_new (Ls : Nat → List Int) (K n : Nat) {k a y : Nat} (h : a < (Ls k).length) (hy : (Ls k).getD a 0 = (y : Int)) (hm : (y : Int) ∉ (Ls k).take a) (hyn : y < n) (x : Nat) :
    (if x = y then ((Dp.S (cN Ls K) y + (Dp.Fka Ls k a (y : Int)).length : Nat) : Int) + 1 else fillG Ls K n k a x) = fillG Ls K n k (a + 1) x := by
  unfold fillG
  have hn := Dp.Fka_new Ls k a h (by rw [hy]; exact hm)
  rw [hy] at hn
  by_cases e : x = y
  · subst e
    rw [if_pos rfl, if_pos hyn, hn, List.length_append, List.length_singleton]
    omega
  · rw [if_neg e, Dp.Fka_other Ls k a h _ (by rw [hy]; omega)]
/-- The places that are filled. -/
def PlA (w : World) (plb n : Nat) (Ls : Nat → List Int) (K k a : Nat) : Prop :=
  ∀ x j, x < n → j < (Dp.Fka Ls k a (x : Int)).length → w.cell? ⟨plb, (Dp.S (cN Ls K) x + j) * 2, none⟩ = some (.int .i64 ((Dp.Fka Ls k a (x : Int)).getD j (0, 0)).1) ∧ w.cell? ⟨plb, (Dp.S (cN Ls K) x + j) * 2 + 1, none⟩ = some (.int .i64 ((Dp.Fka Ls k a (x : Int)).getD j (0, 0)).2)
/-- All cells of the places row are there. -/
def PAny (w : World) (plb T : Nat) : Prop := ∀ i, i < T * 2 → (∃ v, w.cell? ⟨plb, i, none⟩ = some v) ∧ w.frozen? ⟨plb, i, none⟩ = false

theorem PlA.keeps {S : List Nat} {w w' : World} {plb n K k a : Nat} {Ls : Nat → List Int} (h : PlA w plb n Ls K k a) (hk : Keeps S w w') (hb : plb ∉ S) : PlA w' plb n Ls K k a := fun x j hx hj =>
  ⟨(hk.cell (p := ⟨plb, _, none⟩) hb).trans (h x j hx hj).1, (hk.cell (p := ⟨plb, _, none⟩) hb).trans (h x j hx hj).2⟩
theorem PAny.keeps {S : List Nat} {w w' : World} {plb T : Nat} (h : PAny w plb T) (hk : Keeps S w w') (hb : plb ∉ S) : PAny w' plb T := fun i hi => by
  obtain ⟨⟨v, h1⟩, h2⟩ := h i hi
  exact ⟨⟨v, (hk.cell (p := ⟨plb, i, none⟩) hb).trans h1⟩, (hk.frozen (p := ⟨plb, i, none⟩) hb).trans h2⟩
theorem PAny.set {w : World} {plb T : Nat} (h : PAny w plb T) (i : Nat) (u : Value) : PAny (w.setCell ⟨plb, i, none⟩ u) plb T := fun j hj => by
  obtain ⟨⟨v, h1⟩, h2⟩ := h j hj
  refine ⟨?_, by rw [World.frozen?_setCell]; exact h2⟩
  by_cases e : j = i
  · subst e
    exact ⟨u, World.cell?_setCell_same _ _ _ h1⟩
  · exact ⟨v, (World.cell?_setCell_other _ _ _ _ (fun e' => e (congrArg Addr.off e').symm)).trans h1⟩
theorem PlA.old {w : World} {plb n K k a y : Nat} {Ls : Nat → List Int} (h : PlA w plb n Ls K k a) (hl : a < (Ls k).length) (hy : (Ls k).getD a 0 = (y : Int)) (hm : (y : Int) ∈ (Ls k).take a) : PlA w plb n Ls K k (a + 1) := by
  intro x j hx hj
  have e := Dp.Fka_old Ls k a hl (by rw [hy]; exact hm) (x : Int)
  rw [e] at hj ⊢
  exact h x j hx hj
theorem PlA.fin {w : World} {plb n K k a : Nat} {Ls : Nat → List Int} (h : PlA w plb n Ls K k a) (hl : (Ls k).length ≤ a) : PlA w plb n Ls K (k + 1) 0 := by
  intro x j hx hj
  have e := Dp.Fka_end Ls k a hl (x : Int)
  rw [Dp.Fka_zero, ← e] at hj ⊢
  exact h x j hx hj
theorem PlA.new {w : World} {plb n K k a y T : Nat} {Ls : Nat → List Int} (h : PlA w plb n Ls K k a) (hP : PAny w plb T) (hT : T = Dp.S (cN Ls K) n) (hk : k < K) (hl : a < (Ls k).length) (hy : (Ls k).getD a 0 = (y : Int)) (hm : (y : Int) ∉ (Ls k).take a) (hyn : y < n) :
    PlA ((w.setCell ⟨plb, (Dp.S (cN Ls K) y + (Dp.Fka Ls k a (y : Int)).length) * 2, none⟩ (.int .i64 (k : Int))).setCell ⟨plb, (Dp.S (cN Ls K) y + (Dp.Fka Ls k a (y : Int)).length) * 2 + 1, none⟩ (.int .i64 (a : Int))) plb n Ls K k (a + 1) := by
  have hlt : (Dp.Fka Ls k a (y : Int)).length < cN Ls K y := by
    have := Dp.Fka_lt Ls k a K hk hl (by rw [hy]; exact hm)
    rw [hy] at this
    exact this
  have hroom : Dp.S (cN Ls K) y + (Dp.Fka Ls k a (y : Int)).length < T := by
    have h1 := Dp.S_le (cN Ls K) (show y + 1 ≤ n by omega)
    rw [Dp.S] at h1
    omega
  have hn := Dp.Fka_new Ls k a hl (by rw [hy]; exact hm)
  rw [hy] at hn
  obtain ⟨⟨v0, h0⟩, _⟩ := hP ((Dp.S (cN Ls K) y + (Dp.Fka Ls k a (y : Int)).length) * 2) (by omega)
  obtain ⟨⟨v1, h1⟩, _⟩ := hP ((Dp.S (cN Ls K) y + (Dp.Fka Ls k a (y : Int)).length) * 2 + 1) (by omega)
  generalize hq : Dp.S (cN Ls K) y + (Dp.Fka Ls k a (y : Int)).length = q at *
  intro x j hx hj
  by_cases e : x = y ∧ j = (Dp.Fka Ls k a (y : Int)).length
  · obtain ⟨rfl, rfl⟩ := e
    rw [hq, hn]
    have e1 : (Dp.Fka Ls k a (x : Int) ++ [((k : Int), (a : Int))]).getD (Dp.Fka Ls k a (x : Int)).length (0, 0) = ((k : Int), (a : Int)) := by simp
    rw [e1]
    refine ⟨?_, ?_⟩
    · rw [World.cell?_setCell_other _ _ _ _ (fun e' => by have := congrArg Addr.off e'; simp at this)]
      exact World.cell?_setCell_same _ _ _ h0
    · refine World.cell?_setCell_same _ _ _ (u := v1) ?_
      rw [World.cell?_setCell_other _ _ _ _ (fun e' => by have := congrArg Addr.off e'; simp at this)]
      exact h1
  · have hj' : j < (Dp.Fka Ls k a (x : Int)).length ∧ (Dp.Fka Ls k (a + 1) (x : Int)).getD j (0, 0) = (Dp.Fka Ls k a (x : Int)).getD j (0, 0) := by
      by_cases ex : x = y
      · subst ex
        rw [hn] at hj ⊢
        have hjl : j < (Dp.Fka Ls k a (x : Int)).length := by
          rw [List.length_append, List.length_singleton] at hj
          have : j ≠ (Dp.Fka Ls k a (x : Int)).length := fun h => e ⟨rfl, h⟩
          omega
        exact ⟨hjl, by rw [List.getD_eq_getElem?_getD, List.getElem?_append_left hjl, ← List.getD_eq_getElem?_getD]⟩
      · rw [Dp.Fka_other Ls k a hl _ (by rw [hy]; omega)] at hj ⊢
        exact ⟨hj, rfl⟩
    obtain ⟨hj1, hj2⟩ := hj'
    have hjc : j < cN Ls K x := Nat.lt_of_lt_of_le hj1 (Dp.Fka_le Ls (x : Int) k a K hk)
    have hne : Dp.S (cN Ls K) x + j ≠ q := by
      intro h
      have := Dp.S_apart (cN Ls K) hjc hlt (h.trans hq.symm)
      exact e this
    obtain ⟨g1, g2⟩ := h x j hx hj1
    rw [hj2]
    refine ⟨?_, ?_⟩
    · rw [World.cell?_setCell_other _ _ _ _ (fun e' => by have := congrArg Addr.off e'; simp at this; omega), World.cell?_setCell_other _ _ _ _ (fun e' => by have := congrArg Addr.off e'; simp at this; omega)]
      exact g1
    · rw [World.cell?_setCell_other _ _ _ _ (fun e' => by have := congrArg Addr.off e'; simp at this; omega), World.cell?_setCell_other _ _ _ _ (fun e' => by have := congrArg Addr.off e'; simp at this; omega)]
      exact g2
theorem PlA.whole {w : World} {plb n K : Nat} {Ls : Nat → List Int} (h : PlA w plb n Ls K K 0) : PlAt w plb n Ls K := by
  intro x j hx hj
  have h1 := h x j hx
  rw [Dp.Fka_zero] at h1
  exact h1 hj

theorem RowAt.shifted {w : World} {pb n K : Nat} {Ls : Nat → List Int} (h : RowAt w pb (n + 1) (fun x => if x = 0 then fillG Ls K n K 0 0 else fillG Ls K n K 0 (x - 1))) :
    RowAt (w.setCell ⟨pb, 0, none⟩ (.int .i64 0)) pb (n + 1) (fun x => (Dp.S (cN Ls K) x : Int)) := by
  refine (h.set 0 0).congr (fun x hx => ?_)
  by_cases e : x = 0
  · subst e; simp [Dp.S]
  · obtain ⟨y, rfl⟩ : ∃ y, x = y + 1 := ⟨x - 1, by omega⟩
    simp only [Nat.add_one_ne_zero, if_false, Nat.add_sub_cancel]
    unfold fillG
    rw [if_pos (by omega), Dp.Fka_zero]
    rfl
theorem PlAt.keeps {S : List Nat} {w w' : World} {plb n K : Nat} {Ls : Nat → List Int} (h : PlAt w plb n Ls K) (hk : Keeps S w w') (hb : plb ∉ S) : PlAt w' plb n Ls K := fun x j hx hj =>
  ⟨(hk.cell (p := ⟨plb, _, none⟩) hb).trans (h x j hx hj).1, (hk.cell (p := ⟨plb, _, none⟩) hb).trans (h x j hx hj).2⟩

/-- What deliveryPlaces leaves. -/
def PlacesPost (w : World) (n K : Nat) (Ls : Nat → List Int) (e : Ending) (w' : World) : Prop :=
  ∃ db pb plb, e = .returned (.pointer (some ⟨db, 0, none⟩)) ∧ w'.cell? ⟨db, 0, none⟩ = some (.slice (some ⟨pb, 0, none⟩) (n + 1) (n + 1)) ∧ w'.cell? ⟨db, 1, none⟩ = some (.slice (some ⟨plb, 0, none⟩) (Dp.S (cN Ls K) n) (Dp.S (cN Ls K) n)) ∧
    RowAt w' pb (n + 1) (fun x => (Dp.S (cN Ls K) x : Int)) ∧ PlAt w' plb n Ls K ∧ db < w'.heap.size ∧ pb < w'.heap.size ∧ plb < w'.heap.size ∧ Below w.heap.size w w'

set_option maxRecDepth 100000 in
set_option maxHeartbeats 2000000 in
theorem places_walk (B hb n cd cm cn : Nat) (ad am an : Option Addr) (dl : List Inn) (ms : List Nat) (w : World) (hH : HC w B hb n cd cm cn ad am an dl ms) (hB : B = w.heap.size) (hok : OkIn n dl ms) :
    Calls Try.prog 35 #[.pointer (some ⟨hb, 0, none⟩)] w (PlacesPost w n ms.length (LsOf dl ms)) := by
  have HOk := hide3 hok
  have hnl := hok.nl
  have hml := hok.ml
  have hdll := hok.dll
  obtain ⟨K, hK⟩ : ∃ K, K = ms.length := ⟨_, rfl⟩
  have hKl : K ≤ 131072 := by omega
  obtain ⟨Ls, hLs⟩ : ∃ Ls, Ls = LsOf dl ms := ⟨_, rfl⟩
  rw [← hK, ← hLs]
  have HLs := hide3 hLs
  clear hLs
  obtain ⟨i0, hi, hz0, hz1, hz2⟩ := info_parts i3
  obtain ⟨W1, hmk, hown, hgr⟩ := run_make_full (P := Try.prog) w w.heap.size 22 3 i0 (.int .i64 0) 1 Try.underlying22 hi hz0 hz1 .i64 .i64 (n + 1) (by rw [hz2]; omega) (by unfold maxLen; omega) (Nat.le_refl _)
  have hR := row_made hown
  have hsz : W1.heap.size = w.heap.size + 1 := by
    have h2 := congrArg (fun r => match r with | .ok _ x => x.heap.size | _ => 0) hmk
    have h3 := run_make (P := Try.prog) w 22 3 i0 (.int .i64 0) Try.underlying22 hi hz0 .i64 .i64 ((n + 1 : Nat) : Int) ((n + 1 : Nat) : Int) (by omega) (Int.le_refl _) (by rw [hz2]; omega) (by omega)
    rw [h3] at h2
    simpa using h2.symm
  have hbl1 : Below w.heap.size w W1 := (Below.refl _ _).grown hgr (Nat.le_refl _) (fun k e => by cases e)
  have ec : ((n + 1 : Nat) : Int) = (n : Int) + 1 := by omega
  rw [ec] at hmk
  obtain ⟨c6, c11, c12, hdr, hmr, hhb⟩ := hH
  have HH := hide3 (HC.mk c6 c11 c12 hdr hmr hhb)
  have HB := hide3 hB
  have HSz := hide3 hsz
  have HBl := hide3 hbl1
  have HR := hide3 hR
  clear hok hown hgr ec hdr hmr hB hsz hbl1 hR hi hz0 hz1 hz2
  rw [← hK] at c11
  have HK := hide3 hK
  clear hK
  go_enter Try.func35, Try.ntmps35
  go_wp2_with fail
  obtain ⟨w2, hw2⟩ : ∃ w2, w2 = W1.alloc (.cells #[.slice (some ⟨w.heap.size, 0, none⟩) (n + 1) (n + 1), .slice none 0 0] 76) := ⟨_, rfl⟩
  have hs1 := HSz.out
  have hs2 : w2.heap.size = w.heap.size + 2 := by rw [hw2]; simp [hs1]
  have hbl2 : Below w.heap.size w w2 := by rw [hw2]; exact HBl.out.alloc (by omega) _
  have hR2 : RowAt w2 w.heap.size (n + 1) (fun _ => 0) := by rw [hw2]; exact HR.out.below ((Below.refl _ _).alloc (Nat.le_refl _) _) (by omega)
  have hnew : w2.heap[W1.heap.size]? = some (.cells #[.slice (some ⟨w.heap.size, 0, none⟩) (n + 1) (n + 1), .slice none 0 0] 76 (0, 0)) := by rw [hw2]; exact heap_alloc_new W1 _
  have p0 : w2.cell? ⟨W1.heap.size, 0, none⟩ = some (.slice (some ⟨w.heap.size, 0, none⟩) (n + 1) (n + 1)) := by simp [World.cell?, hnew]
  have p1 : w2.cell? ⟨W1.heap.size, 1, none⟩ = some (.slice none 0 0) := by simp [World.cell?, hnew]
  have pz : w2.frozen? ⟨W1.heap.size, 1, none⟩ = false := by simp [World.frozen?, hnew]
  rw [← hw2]
  obtain ⟨db, hdb⟩ : ∃ db, db = W1.heap.size := ⟨_, rfl⟩
  rw [← hdb] at p0 p1 pz ⊢
  have hdbv : db = w.heap.size + 1 := hdb.trans hs1
  obtain ⟨pb, hpb⟩ : ∃ pb, pb = w.heap.size := ⟨_, rfl⟩
  have HC2 := HH.out.below (HB.out ▸ hbl2)
  rw [← hpb] at p0 hR2 hs2 hdbv hbl2 ⊢
  have HBp : Hid (B = pb) := hide3 (HB.out.trans hpb.symm)
  clear hw2 hnew hdb hs1 HSz HBl HR hmk c6 c11 c12
  refine (first_calls hb n cn an w2 HC2.c12 (by omega)).mono ?_
  rintro e W0 ⟨rfl, hA0, hF0, hbl0, hs0⟩
  obtain ⟨ab, hab⟩ : ∃ ab, ab = w2.heap.size := ⟨_, rfl⟩
  obtain ⟨fb, hfb⟩ : ∃ fb, fb = w2.heap.size + 1 := ⟨_, rfl⟩
  rw [← hfb, ← hab] at hF0
  rw [← hab] at hA0
  rw [← hfb]
  have habv : ab = pb + 2 := by omega
  have hfbv : fb = pb + 3 := by omega
  have hW0s : W0.heap.size = pb + 4 := by omega
  have hpbB : pb < w2.heap.size := by omega
  have hR0 := hR2.below hbl0 hpbB
  have hdbB : db < w2.heap.size := by omega
  have e0 : W0.cell? ⟨db, 0, none⟩ = some (.slice (some ⟨pb, 0, none⟩) (n + 1) (n + 1)) := (hbl0.cell (p := ⟨db, 0, none⟩) hdbB).trans p0
  have e1 : W0.cell? ⟨db, 1, none⟩ = some (.slice none 0 0) := (hbl0.cell (p := ⟨db, 1, none⟩) hdbB).trans p1
  have ez : W0.frozen? ⟨db, 1, none⟩ = false := (hbl0.frozen (p := ⟨db, 1, none⟩) hdbB).trans pz
  have HC0 := hide3 (HC2.below (hbl0.mono (by have := HBp.out; omega)))
  have HW0 := hide3 (hbl2.trans (hbl0.mono (show pb ≤ w2.heap.size by omega)))
  have HFS0 : Hid (FSt W0 fb hb ab n dl) := hide3 ⟨-1, [], hF0, hA0.congr (fun x _ => by simp [Dp.fst]), .inl ⟨rfl, rfl⟩⟩
  have HR0 := hide3 hR0
  have Hs : Hid (B ≤ pb ∧ pb < db ∧ db < ab ∧ ab < fb ∧ fb < W0.heap.size) := hide3 (by have := HBp.out; omega)
  have c11 := HC0.out.c11
  rw [← HK.out] at c11
  clear HC2 hA0 hF0 hbl0 hs0 hab hfb habv hfbv hW0s hpbB hR2 hR0 hdbB p0 p1 pz hbl2 hs2 hdbv hpb HH
  go_wp2_with fail
  go_loopw [32] (fun i wr => ∃ k : Nat, k ≤ K ∧ i = .int .i64 k ∧ RowAt wr pb (n + 1) (cntG Ls k 0) ∧ FSt wr fb hb ab n dl ∧ Keeps [pb, ab, fb] W0 wr) (fun i _ => K - (intOf i).toNat)
  case atStart => exact ⟨0, Nat.zero_le _, rfl, HR0.out.congr (fun x _ => by simp [cntG, Dp.Fka, Dp.Fk]), HFS0.out, Keeps.refl _ _⟩
  case round =>
    obtain ⟨k, hk, rfl, hRp, hFS, hKp⟩ := hrel
    obtain ⟨s1, s2, s3, s4, s5⟩ := Hs.out
    have hbl := hKp.below (B := B) (by simp; omega)
    have hH := HC0.out.below hbl
    have d0' : wr.cell? ⟨db, 0, none⟩ = some (.slice (some ⟨pb, 0, none⟩) (n + 1) (n + 1)) := (hKp.cell (p := ⟨db, 0, none⟩) (by simp; omega)).trans e0
    by_cases hlt : k < K
    · obtain ⟨hm1, hm2⟩ := HOk.out.mem k (by have := HK.out; omega)
      obtain ⟨bm, om, ram, hbm, hcm⟩ := hH.mr.at (i := k) (by have := HK.out; simp; omega)
      subst ram
      obtain ⟨m, hm⟩ : ∃ m, m = ms.getD k 0 := ⟨_, rfl⟩
      have hcm' : wr.cell? ⟨bm, om + k, none⟩ = some (.int .i64 (m : Int)) := by
        rw [hcm, hm]
        have hk' : k < ms.length := by have := HK.out; omega
        simp [List.getElem?_eq_getElem hk']
      rw [← hm] at hm1 hm2
      have hLk : Ls k = (dl.getD m d0).zs := by rw [HLs.out, LsOf, ← hm]
      have HLk := hide3 hLk
      have hll := HOk.out.len m
      have hcall := hide3 (of_any B hb fb ab n cd ad dl m wr hH.dr hH.c6 hH.hbB (by omega) (by omega) (by omega) hFS hm1 hm2 HOk.out.len)
      have HM2 := hide3 hm2
      have hH' := hide3 hH
      have Hbl := hide3 hbl
      clear hcm hm hLk hm2 hH hFS hbl
      have hmI : (m : Int) < (dl.length : Int) := by omega
      go_wp2_with fail
      refine hcall.out.mono ?_
      rintro e w3 ⟨rfl, hA3, hF3, hK3⟩
      have hb3 : Below B wr w3 := hK3.below (by simp; omega)
      have hH3 := hH'.out.below hb3
      have hRd : RdL B W0 (dl.getD m d0).a (dl.getD m d0).zs := by
        obtain ⟨_, _, _, _, _, h⟩ := HC0.out.dr.at hm1
        exact h
      obtain ⟨bd, od, rad, hbd, hcd, _⟩ := hH3.dr.at hm1
      subst rad
      have c63 := hH3.c6
      have hRp3 := hRp.keeps hK3 (by simp; omega)
      have hKp3 := hKp.trans (hK3.mono (S' := [pb, ab, fb]) (by simp))
      rw [← HLk.out] at hcd hRd hll hA3
      have HM3 := HM2
      rw [← HLk.out] at HM3
      generalize (dl.getD m d0).a = ai at *
      generalize (dl.getD m d0).c = ci at *
      have HRd := hide3 hRd
      have HF3 := hide3 hF3
      have HA3 := hide3 hA3
      clear hcall hH3 hRd hF3 hA3 hRp hKp hK3 hcm' d0'
      go_wp2_with fail
      go_loopw [47] (fun i wr => ∃ a : Nat, a ≤ (Ls k).length ∧ i = .int .i64 a ∧ RowAt wr pb (n + 1) (cntG Ls k a) ∧ RowAt wr ab n (fun x => Dp.fst (Ls k) x) ∧ FD wr fb hb ab n m ∧ Keeps [pb, ab, fb] W0 wr) (fun i _ => (Ls k).length - (intOf i).toNat)
      case atStart => exact ⟨0, Nat.zero_le _, rfl, hRp3, HA3.out, HF3.out, hKp3⟩
      case round =>
        clear hRp3 HA3 HF3 hKp3 c63 hcd hb3
        obtain ⟨a, ha, rfl, hRp, hRa, hF, hKp⟩ := hrel
        have hbl := hKp.below (B := B) (by simp; omega)
        have d0' : wr.cell? ⟨db, 0, none⟩ = some (.slice (some ⟨pb, 0, none⟩) (n + 1) (n + 1)) := (hKp.cell (p := ⟨db, 0, none⟩) (by simp; omega)).trans e0
        by_cases hlta : a < (Ls k).length
        · obtain ⟨b1, o1, ra1, hb1, hc1⟩ := (HRd.out.below hbl).at hlta
          subst ra1
          obtain ⟨y, hy, hyn⟩ := HM3.out.at hlta
          rw [hy] at hc1
          have hyI : (y : Int) < (n : Int) := by omega
          have hmem : (y : Int) ∈ Ls k := by rw [← hy]; exact Dp.getD_mem hlta
          have hfi := Dp.first_iff hlta
          rw [hy] at hfi
          have hya : wr.cell? ⟨ab, y, none⟩ = some (.int .i64 (Dp.fst (Ls k) (y : Int))) := (hRa y hyn).1
          rw [Dp.fst_mem hmem] at hya
          by_cases hmy : (y : Int) ∈ (Ls k).take a
          · have hne : ((((Ls k).idxOf (y : Int) : Nat) : Int) == (a : Int)) = false := by
              rw [beq_eq_false_iff_ne]
              intro e
              exact (hfi.1 (by omega)) hmy
            have HRp := hide3 (hRp.congr (fun x _ => cntG_old Ls hlta hy hmy x))
            have HRa := hide3 hRa
            have HF := hide3 hF
            generalize (Ls k).idxOf (y : Int) = v at *
            clear hy hRp hmem hfi hmy hRa hF
            go_wp2
            go_roundw
            case rel => exact ⟨a + 1, by omega, by go_num, HRp.out, HRa.out, HF.out, hKp⟩
            case measure => simp [intOf]; omega
          · rw [hfi.2 hmy] at hya
            obtain ⟨hp1, hp2⟩ := hRp (y + 1) (by omega)
            have hcb := cntG_bound Ls k a (y + 1)
            have HRp := hide3 ((hRp.set (y + 1) (cntG Ls k a (y + 1) + 1)).congr (fun x _ => cntG_new Ls hlta hy hmy x))
            have HRa := hide3 hRa
            have HF := hide3 hF
            generalize cntG Ls k a (y + 1) = v at *
            clear hy hRp hmem hfi hmy hRa hF
            go_wp2
            go_roundw
            case rel => exact ⟨a + 1, by omega, by go_num, HRp.out, HRa.out.keeps ((Keeps.refl [pb] _).setCell (by simp) _) (by simp; omega), HF.out.keeps ((Keeps.refl [pb] _).setCell (by simp) _) (by simp; omega), hKp.setCell (by simp) _⟩
            case measure => simp [intOf]; omega
        · have HRp := hide3 (hRp.congr (fun x _ => cntG_end Ls (k := k) (a := a) (by omega) x))
          rw [HLk.out] at hRa
          have HFS := hide3 (FSt.mk' hF hRa hm1 HM2.out)
          clear hRp hRa hF
          go_wp2
          go_roundw
          case rel => exact ⟨k + 1, by omega, by go_num, HRp.out, HFS.out, hKp⟩
          case measure => simp [intOf]; omega
    · obtain rfl : K = k := by omega
      have c12' := hH.c12
      have hbl2 := hide3 hbl
      have hH2 := hide3 hH
      clear hbl hH c11
      go_wp2_with fail
      go_loopw [75] (fun i wr => ∃ t : Nat, t ≤ n ∧ i = .int .i64 t ∧ RowAt wr pb (n + 1) (sumG (cN Ls K) t) ∧ FSt wr fb hb ab n dl ∧ Keeps [pb, ab, fb] W0 wr) (fun i _ => n - (intOf i).toNat)
      case atStart => exact ⟨0, Nat.zero_le _, rfl, hRp.congr (fun x _ => sumG_start Ls K x), hFS, hKp⟩
      case round =>
        clear hRp hFS hKp d0' c12' hbl2 hH2
        obtain ⟨t, ht, rfl, hRp, hFS, hKp⟩ := hrel
        have d0' : wr.cell? ⟨db, 0, none⟩ = some (.slice (some ⟨pb, 0, none⟩) (n + 1) (n + 1)) := (hKp.cell (p := ⟨db, 0, none⟩) (by simp; omega)).trans e0
        by_cases hlt3 : t < n
        · obtain ⟨p1, z1⟩ := hRp (t + 1) (by omega)
          obtain ⟨p2, _⟩ := hRp t (by omega)
          have v1 : sumG (cN Ls K) t (t + 1) = (cN Ls K t : Int) := by unfold sumG; rw [if_neg (by omega)]; rfl
          have v2 : sumG (cN Ls K) t t = (Dp.S (cN Ls K) t : Int) := by simp [sumG]
          rw [v1] at p1
          rw [v2] at p2
          have b1 := cN_le Ls K t
          have b2 := S_small Ls (x := t) hKl hnl (by omega)
          have HRp := hide3 ((hRp.set (t + 1) ((cN Ls K t : Int) + (Dp.S (cN Ls K) t : Int))).congr (fun x _ => sumG_step (cN Ls K) t x))
          have HFS := hide3 hFS
          clear hRp hFS v1 v2
          have hne : pb ≠ db := by omega
          generalize cN Ls K t = c1 at *
          generalize Dp.S (cN Ls K) t = c2 at *
          have hlt3' : (t : Int) < (n : Int) := by omega
          go_wp2_with fail
          go_region
          go_wp2
          go_roundw
          case rel =>
            have hks := ((Keeps.refl [pb] wr).setCell (p := ⟨pb, t + 1, none⟩) (by simp) (.int .i64 ((c1 : Int) + (c2 : Int)))).drew
            exact ⟨t + 1, by omega, by go_num, HRp.out, HFS.out.keeps hks (by simp; omega) (by simp; omega), (hKp.setCell (by simp) _).drew⟩
          case measure => simp [intOf]; omega
        · obtain rfl : n = t := by omega
          obtain ⟨p1, _⟩ := hRp n (by omega)
          have v1 : sumG (cN Ls K) n n = (Dp.S (cN Ls K) n : Int) := by simp [sumG]
          rw [v1] at p1
          obtain ⟨T, hT⟩ : ∃ T, T = Dp.S (cN Ls K) n := ⟨_, rfl⟩
          have hTb : T ≤ 8589934592 := by rw [hT]; exact S_small Ls hKl hnl (Nat.le_refl _)
          rw [← hT] at p1
          have HT := hide3 hT
          obtain ⟨cs, hcs, hmk⟩ := make66 T hTb
          have hbl := hKp.below (B := B) (by simp; omega)
          have c12' := (HC0.out.below hbl).c12
          have e1' : wr.cell? ⟨db, 1, none⟩ = some (.slice none 0 0) := (hKp.cell (p := ⟨db, 1, none⟩) (by simp; omega)).trans e1
          have ez' : wr.frozen? ⟨db, 1, none⟩ = false := (hKp.frozen (p := ⟨db, 1, none⟩) (by simp; omega)).trans ez
          have HRp := hide3 hRp
          have HFS := hide3 hFS
          have Hcs := hide3 hcs
          have hdbs : db < wr.heap.size := by have := hKp.size; omega
          clear hRp hFS v1 hT hbl hcs
          go_wp2_with fail
          go_region
          obtain ⟨plb, hplb⟩ : ∃ plb, plb = wr.heap.size := ⟨_, rfl⟩
          rw [← hplb]
          obtain ⟨Wn, hWn⟩ : ∃ Wn, Wn = ((wr.setCell ⟨db, 1, none⟩ (.slice (some ⟨plb, 0, none⟩) T T)).alloc (.cells cs 66)).drew := ⟨_, rfl⟩
          rw [← hWn]
          have kn : Keeps [db] wr (wr.setCell ⟨db, 1, none⟩ (.slice (some ⟨plb, 0, none⟩) T T)) := (Keeps.refl _ _).setCell (by simp) _
          have bn : Below plb (wr.setCell ⟨db, 1, none⟩ (.slice (some ⟨plb, 0, none⟩) T T)) Wn := by
            rw [hWn]
            exact ((Below.refl _ _).alloc (by rw [kn.size, hplb]; exact Nat.le_refl _) _).drew
          have hnew : Wn.heap[(wr.setCell ⟨db, 1, none⟩ (.slice (some ⟨plb, 0, none⟩) T T)).heap.size]? = some (.cells cs 66 (0, 0)) := by
            rw [hWn]
            exact heap_alloc_new _ _
          have hsn : Wn.heap.size = (wr.setCell ⟨db, 1, none⟩ (.slice (some ⟨plb, 0, none⟩) T T)).heap.size + 1 := by
            rw [hWn]
            simp [World.drew, World.alloc]
          rw [kn.size, ← hplb] at hnew hsn
          have s6 : fb < plb := by have := hKp.size; omega
          have n0 : Wn.cell? ⟨db, 0, none⟩ = some (.slice (some ⟨pb, 0, none⟩) (n + 1) (n + 1)) := by
            rw [bn.cell (p := ⟨db, 0, none⟩) (show db < plb by omega), World.cell?_setCell_other _ _ _ _ (by simp)]
            exact d0'
          have n1 : Wn.cell? ⟨db, 1, none⟩ = some (.slice (some ⟨plb, 0, none⟩) T T) := by
            rw [bn.cell (p := ⟨db, 1, none⟩) (show db < plb by omega)]
            exact World.cell?_setCell_same _ _ _ e1'
          have HRn := hide3 (((HRp.out.keeps kn (by simp; omega)).below bn (by omega)).congr (fun x hx => fillG_start Ls K n x hx))
          have HFn := hide3 ((HFS.out.keeps kn (by simp; omega) (by simp; omega)).below bn (by omega) (by omega))
          have HCn := hide3 (HC0.out.below ((hKp.below (B := B) (by simp; omega)).trans ((kn.below (B := B) (by simp; omega)).trans (bn.mono (by omega)))))
          have HPn : Hid (PAny Wn plb T) := hide3 (fun i hi => ⟨⟨cs[i]'(by rw [Hcs.out]; exact hi), by simp [World.cell?, hnew, Hcs.out, hi]⟩, by simp [World.frozen?, hnew]⟩)
          have HAn : Hid (PlA Wn plb n Ls K 0 0) := hide3 (fun x j _ hj => by simp [Dp.Fka, Dp.Fk] at hj)
          have HBn := hide3 (HW0.out.trans ((hKp.below (B := pb) (by simp; omega)).trans ((kn.below (B := pb) (by simp; omega)).trans (bn.mono (by omega)))))
          have c11 := HCn.out.c11
          rw [← HK.out] at c11
          have s7 : plb < Wn.heap.size := by omega
          clear hplb hWn kn bn hnew hsn hKp d0' e1' ez' HRp HFS Hcs hdbs c12' hmk p1 HR0 HFS0 HC0 HW0 e0 e1 ez Hs s5
          go_wp2_with fail
          go_loopw [116] (fun i wr => ∃ k : Nat, k ≤ K ∧ i = .int .i64 k ∧ RowAt wr pb (n + 1) (fillG Ls K n k 0) ∧ FSt wr fb hb ab n dl ∧ PlA wr plb n Ls K k 0 ∧ PAny wr plb T ∧ Keeps [pb, ab, fb, plb] Wn wr) (fun i _ => K - (intOf i).toNat)
          case atStart => exact ⟨0, Nat.zero_le _, rfl, HRn.out, HFn.out, HAn.out, HPn.out, Keeps.refl _ _⟩
          case round =>
            clear HRn HFn HAn HPn
            obtain ⟨k, hk, rfl, hRp, hFS, hPA, hPy, hKp⟩ := hrel
            have hbl := hKp.below (B := B) (by simp; omega)
            have hH := HCn.out.below hbl
            have d0' : wr.cell? ⟨db, 0, none⟩ = some (.slice (some ⟨pb, 0, none⟩) (n + 1) (n + 1)) := (hKp.cell (p := ⟨db, 0, none⟩) (by simp; omega)).trans n0
            by_cases hlt : k < K
            · obtain ⟨hm1, hm2⟩ := HOk.out.mem k (by have := HK.out; omega)
              obtain ⟨bm, om, ram, hbm, hcm⟩ := hH.mr.at (i := k) (by have := HK.out; simp; omega)
              subst ram
              obtain ⟨m, hm⟩ : ∃ m, m = ms.getD k 0 := ⟨_, rfl⟩
              have hcm' : wr.cell? ⟨bm, om + k, none⟩ = some (.int .i64 (m : Int)) := by
                rw [hcm, hm]
                have hk' : k < ms.length := by have := HK.out; omega
                simp [List.getElem?_eq_getElem hk']
              rw [← hm] at hm1 hm2
              have hLk : Ls k = (dl.getD m d0).zs := by rw [HLs.out, LsOf, ← hm]
              have HLk := hide3 hLk
              have hll := HOk.out.len m
              have hcall := hide3 (of_any B hb fb ab n cd ad dl m wr hH.dr hH.c6 hH.hbB (by omega) (by omega) (by omega) hFS hm1 hm2 HOk.out.len)
              have HM2 := hide3 hm2
              have hH' := hide3 hH
              have Hbl := hide3 hbl
              have HRp := hide3 hRp
              have HPA := hide3 hPA
              have HPy := hide3 hPy
              clear hcm hm hLk hm2 hH hFS hbl hRp hPA hPy
              have hmI : (m : Int) < (dl.length : Int) := by omega
              go_wp2_with fail
              refine hcall.out.mono ?_
              rintro e w3 ⟨rfl, hA3, hF3, hK3⟩
              have hb3 : Below B wr w3 := hK3.below (by simp; omega)
              have hH3 := hH'.out.below hb3
              have hRd : RdL B Wn (dl.getD m d0).a (dl.getD m d0).zs := by
                obtain ⟨_, _, _, _, _, h⟩ := HCn.out.dr.at hm1
                exact h
              obtain ⟨bd, od, rad, hbd, hcd, _⟩ := hH3.dr.at hm1
              subst rad
              have c63 := hH3.c6
              have HRp3 := hide3 (HRp.out.keeps hK3 (by simp; omega))
              have HPA3 := hide3 (HPA.out.keeps hK3 (by simp; omega))
              have HPy3 := hide3 (HPy.out.keeps hK3 (by simp; omega))
              have hKp3 := hKp.trans (hK3.mono (S' := [pb, ab, fb, plb]) (by simp))
              rw [← HLk.out] at hcd hRd hll hA3
              have HM3 := HM2
              rw [← HLk.out] at HM3
              generalize (dl.getD m d0).a = ai at *
              generalize (dl.getD m d0).c = ci at *
              have HRd := hide3 hRd
              have HF3 := hide3 hF3
              have HA3 := hide3 hA3
              clear hcall hH3 hRd hF3 hA3 HRp HPA HPy hKp hK3 hcm' d0'
              go_wp2_with fail
              go_loopw [132] (fun i wr => ∃ a : Nat, a ≤ (Ls k).length ∧ i = .int .i64 a ∧ RowAt wr pb (n + 1) (fillG Ls K n k a) ∧ RowAt wr ab n (fun x => Dp.fst (Ls k) x) ∧ FD wr fb hb ab n m ∧ PlA wr plb n Ls K k a ∧ PAny wr plb T ∧ Keeps [pb, ab, fb, plb] Wn wr) (fun i _ => (Ls k).length - (intOf i).toNat)
              case atStart => exact ⟨0, Nat.zero_le _, rfl, HRp3.out, HA3.out, HF3.out, HPA3.out, HPy3.out, hKp3⟩
              case round =>
                clear HRp3 HA3 HF3 HPA3 HPy3 hKp3 c63 hcd hb3
                obtain ⟨a, ha, rfl, hRp, hRa, hF, hPA, hPy, hKp⟩ := hrel
                have hbl := hKp.below (B := B) (by simp; omega)
                have d0' : wr.cell? ⟨db, 0, none⟩ = some (.slice (some ⟨pb, 0, none⟩) (n + 1) (n + 1)) := (hKp.cell (p := ⟨db, 0, none⟩) (by simp; omega)).trans n0
                have d1' : wr.cell? ⟨db, 1, none⟩ = some (.slice (some ⟨plb, 0, none⟩) T T) := (hKp.cell (p := ⟨db, 1, none⟩) (by simp; omega)).trans n1
                by_cases hlta : a < (Ls k).length
                · obtain ⟨b1, o1, ra1, hb1, hc1⟩ := (HRd.out.below hbl).at hlta
                  subst ra1
                  obtain ⟨y, hy, hyn⟩ := HM3.out.at hlta
                  rw [hy] at hc1
                  have hyI : (y : Int) < (n : Int) := by omega
                  have hmem : (y : Int) ∈ Ls k := by rw [← hy]; exact Dp.getD_mem hlta
                  have hfi := Dp.first_iff hlta
                  rw [hy] at hfi
                  have hya : wr.cell? ⟨ab, y, none⟩ = some (.int .i64 (Dp.fst (Ls k) (y : Int))) := (hRa y hyn).1
                  rw [Dp.fst_mem hmem] at hya
                  by_cases hmy : (y : Int) ∈ (Ls k).take a
                  · have hne : ((((Ls k).idxOf (y : Int) : Nat) : Int) == (a : Int)) = false := by
                      rw [beq_eq_false_iff_ne]
                      intro e
                      exact (hfi.1 (by omega)) hmy
                    have HRp := hide3 (hRp.congr (fun x _ => fillG_old Ls K n hlta hy hmy x))
                    have HPA := hide3 (hPA.old hlta hy hmy)
                    have HPy := hide3 hPy
                    have HRa := hide3 hRa
                    have HF := hide3 hF
                    generalize (Ls k).idxOf (y : Int) = v at *
                    clear hy hRp hmem hfi hmy hRa hF hPA hPy
                    go_wp2
                    go_roundw
                    case rel => exact ⟨a + 1, by omega, by go_num, HRp.out, HRa.out, HF.out, HPA.out, HPy.out, hKp⟩
                    case measure => simp [intOf]; omega
                  · rw [hfi.2 hmy] at hya
                    have hq0 : fillG Ls K n k a y = ((Dp.S (cN Ls K) y + (Dp.Fka Ls k a (y : Int)).length : Nat) : Int) := by unfold fillG; rw [if_pos hyn]
                    have hRpy : wr.cell? ⟨pb, y, none⟩ = some (.int .i64 (fillG Ls K n k a y)) ∧ wr.frozen? ⟨pb, y, none⟩ = false := hRp y (by omega)
                    obtain ⟨hp1, hp2⟩ := hRpy
                    rw [hq0] at hp1
                    have hroom : Dp.S (cN Ls K) y + (Dp.Fka Ls k a (y : Int)).length < T := by
                      have hlt' := Dp.Fka_lt Ls k a K hlt hlta (by rw [hy]; exact hmy)
                      rw [hy] at hlt'
                      have h1 := Dp.S_le (cN Ls K) (show y + 1 ≤ n by omega)
                      rw [Dp.S] at h1
                      have h2 : cN Ls K y = (Dp.Fk Ls K (y : Int)).length := rfl
                      have := HT.out
                      omega
                    have HRp := hide3 ((hRp.set y (((Dp.S (cN Ls K) y + (Dp.Fka Ls k a (y : Int)).length : Nat) : Int) + 1)).congr (fun x _ => fillG_new Ls K n hlta hy hmy hyn x))
                    have HPA := hide3 (hPA.new hPy HT.out hlt hlta hy hmy hyn)
                    generalize Dp.S (cN Ls K) y + (Dp.Fka Ls k a (y : Int)).length = q at *
                    obtain ⟨⟨v0, hv0⟩, hz0⟩ := hPy (q * 2) (by omega)
                    obtain ⟨⟨v1, hv1⟩, hz1⟩ := hPy (q * 2 + 1) (by omega)
                    have HPy := hide3 hPy
                    have HRa := hide3 hRa
                    have HF := hide3 hF
                    clear hy hRp hmem hfi hmy hRa hF hPA hPy hq0
                    have hqI : (q : Int) < (T : Int) := by omega
                    have hnp : pb ≠ plb := by omega
                    have hnd : db ≠ plb := by omega
                    go_wp2_with fail
                    go_region
                    obtain ⟨W2, hW2⟩ : ∃ W2, W2 = ((wr.setCell ⟨plb, q * 2, none⟩ (.int .i64 (k : Int))).setCell ⟨plb, q * 2 + 1, none⟩ (.int .i64 (a : Int))).drew := ⟨_, rfl⟩
                    rw [← hW2]
                    have k2 : Keeps [plb] wr W2 := by rw [hW2]; exact (((Keeps.refl _ _).setCell (by simp) _).setCell (by simp) _).drew
                    have HPA2 : Hid (PlA W2 plb n Ls K k (a + 1)) := hide3 (by rw [hW2]; exact HPA.out)
                    have HPy2 : Hid (PAny W2 plb T) := hide3 (by rw [hW2]; exact (HPy.out.set _ _).set _ _)
                    have HRp2 := hide3 (show RowAt (W2.setCell ⟨pb, y, none⟩ (.int .i64 ((q : Int) + 1))) pb (n + 1) (fillG Ls K n k (a + 1)) from fun x hx => by
                      obtain ⟨g1, g2⟩ := HRp.out x hx
                      rw [World.frozen?_setCell] at g2 ⊢
                      refine ⟨?_, (k2.frozen (p := ⟨pb, x, none⟩) (by simp; omega)).trans g2⟩
                      by_cases e : x = y
                      · subst e
                        rw [World.cell?_setCell_same _ _ _ hp1] at g1
                        rw [World.cell?_setCell_same _ _ _ ((k2.cell (p := ⟨pb, x, none⟩) (by simp; omega)).trans hp1)]
                        exact g1
                      · rw [World.cell?_setCell_other _ _ _ _ (fun e' => e (congrArg Addr.off e').symm)] at g1 ⊢
                        exact (k2.cell (p := ⟨pb, x, none⟩) (by simp; omega)).trans g1)
                    have hp1 := (k2.cell (p := ⟨pb, y, none⟩) (by simp; omega)).trans hp1
                    have hp2 := (k2.frozen (p := ⟨pb, y, none⟩) (by simp; omega)).trans hp2
                    have d0' := (k2.cell (p := ⟨db, 0, none⟩) (by simp; omega)).trans d0'
                    have HRa2 := hide3 (HRa.out.keeps k2 (by simp; omega))
                    have HF2 := hide3 (HF.out.keeps k2 (by simp; omega))
                    have hKp2 := hKp.trans (k2.mono (S' := [pb, ab, fb, plb]) (by simp))
                    clear hW2 HPA HPy HRp HRa HF hKp k2 hv0 hv1 hz0 hz1 d1' hc1 hya hbl
                    go_wp2
                    go_roundw
                    case rel =>
                      have hks : Keeps [pb] W2 (W2.setCell ⟨pb, y, none⟩ (.int .i64 ((q : Int) + 1))) := (Keeps.refl [pb] _).setCell (by simp) _
                      exact ⟨a + 1, by omega, by go_num, HRp2.out, HRa2.out.keeps hks (by simp; omega), HF2.out.keeps hks (by simp; omega), HPA2.out.keeps hks (by simp; omega), HPy2.out.keeps hks (by simp; omega), hKp2.setCell (by simp) _⟩
                    case measure => simp [intOf]; omega
                · have HRp := hide3 (hRp.congr (fun x _ => fillG_end Ls K n (k := k) (a := a) (by omega) x))
                  have HPA := hide3 (hPA.fin (by omega))
                  have HPy := hide3 hPy
                  rw [HLk.out] at hRa
                  have HFS := hide3 (FSt.mk' hF hRa hm1 HM2.out)
                  clear hRp hRa hF hPA hPy
                  go_wp2
                  go_roundw
                  case rel => exact ⟨k + 1, by omega, by go_num, HRp.out, HFS.out, HPA.out, HPy.out, hKp⟩
                  case measure => simp [intOf]; omega
            · obtain rfl : K = k := by omega
              have c12' := hH.c12
              have d1' : wr.cell? ⟨db, 1, none⟩ = some (.slice (some ⟨plb, 0, none⟩) T T) := (hKp.cell (p := ⟨db, 1, none⟩) (by simp; omega)).trans n1
              have HRp := hide3 hRp
              have HPA := hide3 hPA.whole
              have Hbw := hide3 (HBn.out.trans (hKp.below (B := pb) (by simp; omega)))
              have s8 : plb < wr.heap.size := by rw [hKp.size]; exact s7
              clear hRp hPA hPy hFS hH hbl c11 n0 n1 hKp
              go_wp2_with fail
              have h1n : (1 : Int) ≤ (n : Int) + 1 := by omega
              have h2n : (n : Int) ≤ (n : Int) + 1 := by omega
              go_region_law (refine step_shift rfl (.tmp 173) (.tmp 183) 22 rfl 3 Try.underlying22 (by kernel_rfl) _ _ n _ _ rfl rfl pb _ HRp.out (fun hn0 => ⟨by simp; omega, by simp⟩) ?_; intro w5 hr5 hk5)
              all_goals
                have k5 : Keeps [pb] wr w5 := ⟨hk5.os, hk5.tape, hk5.output, hk5.size, hk5.block⟩
                have d0'' : w5.cell? ⟨db, 0, none⟩ = some (.slice (some ⟨pb, 0, none⟩) (n + 1) (n + 1)) := (k5.cell (p := ⟨db, 0, none⟩) (by simp; omega)).trans d0'
                obtain ⟨p5, z5⟩ := hr5 0 (by omega)
                have HR6 := hide3 hr5.shifted
                have hks : Keeps [pb] wr (w5.setCell ⟨pb, 0, none⟩ (.int .i64 0)) := k5.setCell (by simp) _
                have Hfin : Hid (PlacesPost w n K Ls (.returned (.pointer (some ⟨db, 0, none⟩))) (w5.setCell ⟨pb, 0, none⟩ (.int .i64 0))) := by
                  refine hide3 ⟨db, pb, plb, rfl, (hks.cell (p := ⟨db, 0, none⟩) (by simp; omega)).trans d0', ?_, HR6.out, HPA.out.keeps hks (by simp; omega), by rw [hks.size]; omega, by rw [hks.size]; omega, by rw [hks.size]; omega, ?_⟩
                  · rw [← HT.out]
                    exact (hks.cell (p := ⟨db, 1, none⟩) (by simp; omega)).trans d1'
                  · exact (Hbw.out.trans (hks.below (B := pb) (by simp))).mono (by have := HB.out; omega)
                clear hr5 hk5 k5 hks HR6 HPA Hbw
                go_wp2
                all_goals
                  go_ret
                  first
                    | exact Hfin.out
                    | (rename_i hz; rw [hz] at Hfin; exact Hfin.out)
                    | (subst_vars; exact Hfin.out)

end Go.Proofs.Qxb6601966a
