/-
  Memory for the walks of deliveryPlaces: rows told cell by cell, lists of lists that came in, what a step keeps.
-/
import Derived.Test.Qxb6601966aProg
import Derived.Test.Qxb6601966aFirst
import Derived.WalkKit
import Derived.WalkSpells
import Derived.Deep.Draws
namespace Go.Proofs.Qxb6601966a
open Go Go.RowKit

theorem hide3 {p : Prop} (h : p) : Hid p := h

/-- w' is w but for the blocks of S (no block has come or gone). -/
structure Keeps (S : List Nat) (w w' : World) : Prop where
  os : w'.os = w.os
  tape : w'.tape = w.tape
  output : w'.output = w.output
  size : w'.heap.size = w.heap.size
  block : ∀ k, k ∉ S → w'.heap[k]? = w.heap[k]?

theorem Keeps.refl (S : List Nat) (w : World) : Keeps S w w := ⟨rfl, rfl, rfl, rfl, fun _ _ => rfl⟩
theorem Keeps.trans {S : List Nat} {a b c : World} (h : Keeps S a b) (k : Keeps S b c) : Keeps S a c :=
  ⟨k.os.trans h.os, k.tape.trans h.tape, k.output.trans h.output, k.size.trans h.size, fun i hi => (k.block i hi).trans (h.block i hi)⟩
theorem Keeps.mono {S S' : List Nat} {a b : World} (h : Keeps S a b) (hs : ∀ k, k ∈ S → k ∈ S') : Keeps S' a b :=
  ⟨h.os, h.tape, h.output, h.size, fun i hi => h.block i (fun hm => hi (hs i hm))⟩
theorem Keeps.drewN {S : List Nat} {a b : World} (h : Keeps S a b) (q : Nat) : Keeps S a (b.drewN q) := ⟨h.os, h.tape, h.output, h.size, h.block⟩
theorem Keeps.setCell {S : List Nat} {a b : World} (h : Keeps S a b) {p : Addr} (hp : p.block ∈ S) (u : Value) : Keeps S a (b.setCell p u) :=
  h.trans ⟨rfl, rfl, rfl, by simp [World.setCell], fun k hk => Below.heap_setCell _ _ _ _ (fun e => hk (by rw [e]; exact hp))⟩
theorem Keeps.below {S : List Nat} {a b : World} (h : Keeps S a b) {B : Nat} (hS : ∀ k, k ∈ S → B ≤ k) : Below B a b :=
  ⟨h.os, h.tape, h.output, Nat.le_of_eq h.size.symm, fun k hk => h.block k (fun hm => by have := hS k hm; omega)⟩
theorem Keeps.cell {S : List Nat} {a b : World} (h : Keeps S a b) {p : Addr} (hp : p.block ∉ S) : b.cell? p = a.cell? p := World.cell?_of_block (h.block p.block hp)
theorem Keeps.frozen {S : List Nat} {a b : World} (h : Keeps S a b) {p : Addr} (hp : p.block ∉ S) : b.frozen? p = a.frozen? p := World.frozen?_of_block (h.block p.block hp)

/-- The first n cells of block b are the numbers g, and may be written. -/
def RowAt (w : World) (b n : Nat) (g : Nat → Int) : Prop := ∀ x, x < n → w.cell? ⟨b, x, none⟩ = some (.int .i64 (g x)) ∧ w.frozen? ⟨b, x, none⟩ = false

theorem RowAt.keeps {S : List Nat} {w w' : World} {b n : Nat} {g : Nat → Int} (h : RowAt w b n g) (hk : Keeps S w w') (hb : b ∉ S) : RowAt w' b n g := fun x hx =>
  ⟨(hk.cell (p := ⟨b, x, none⟩) hb).trans (h x hx).1, (hk.frozen (p := ⟨b, x, none⟩) hb).trans (h x hx).2⟩
theorem RowAt.set {w : World} {b n : Nat} {g : Nat → Int} (h : RowAt w b n g) (y : Nat) (v : Int) : RowAt (w.setCell ⟨b, y, none⟩ (.int .i64 v)) b n (fun x => if x = y then v else g x) := by
  intro x hx
  obtain ⟨h1, h2⟩ := h x hx
  refine ⟨?_, by rw [World.frozen?_setCell]; exact h2⟩
  show _ = some (Value.int .i64 (if x = y then v else g x))
  by_cases e : x = y
  · subst e
    rw [if_pos rfl]
    exact World.cell?_setCell_same _ _ _ h1
  · rw [if_neg e, World.cell?_setCell_other _ _ _ _ (fun e' => e (congrArg Addr.off e').symm)]
    exact h1
theorem RowAt.congr {w : World} {b n : Nat} {g g' : Nat → Int} (h : RowAt w b n g) (e : ∀ x, x < n → g x = g' x) : RowAt w b n g' := fun x hx => by rw [← e x hx]; exact h x hx
theorem RowAt.drewN {w : World} {b n : Nat} {g : Nat → Int} (h : RowAt w b n g) (q : Nat) : RowAt (w.drewN q) b n g := h
theorem RowAt.below {w w' : World} {b n B : Nat} {g : Nat → Int} (h : RowAt w b n g) (hk : Below B w w') (hb : b < B) : RowAt w' b n g := fun x hx =>
  ⟨(hk.cell (p := ⟨b, x, none⟩) hb).trans (h x hx).1, (hk.frozen (p := ⟨b, x, none⟩) hb).trans (h x hx).2⟩

/-- Where there is an element, the numbers zs lie at the address a, below block B. -/
def RdL (B : Nat) (w : World) (a : Option Addr) (zs : List Int) : Prop :=
  0 < zs.length → ∃ b off, a = some ⟨b, off, none⟩ ∧ b < B ∧ ∀ i, i < zs.length → w.cell? ⟨b, off + i, none⟩ = some (.int .i64 (zs.getD i 0))
/-- A slice of numbers: its address, its capacity, its numbers. -/
structure Inn where
  a : Option Addr
  c : Nat
  zs : List Int
def d0 : Inn := ⟨none, 0, []⟩
def Inn.v (i : Inn) : Value := .slice i.a i.zs.length i.c
/-- A slice of such slices. -/
def DRd (B : Nat) (w : World) (ad : Option Addr) (dl : List Inn) : Prop :=
  0 < dl.length → ∃ b off, ad = some ⟨b, off, none⟩ ∧ b < B ∧ ∀ m, m < dl.length → w.cell? ⟨b, off + m, none⟩ = some (dl.getD m d0).v ∧ RdL B w (dl.getD m d0).a (dl.getD m d0).zs

theorem RdL.below {B : Nat} {w w' : World} {a : Option Addr} {zs : List Int} (h : RdL B w a zs) (hb : Below B w w') : RdL B w' a zs := by
  intro hp
  obtain ⟨b, off, e, hlt, hc⟩ := h hp
  exact ⟨b, off, e, hlt, fun i hi => (hb.cell (by exact hlt)).trans (hc i hi)⟩
theorem RdL.at {B : Nat} {w : World} {a : Option Addr} {zs : List Int} (h : RdL B w a zs) {i : Nat} (hi : i < zs.length) : ∃ b off, a = some ⟨b, off, none⟩ ∧ b < B ∧ w.cell? ⟨b, off + i, none⟩ = some (.int .i64 (zs.getD i 0)) := by
  obtain ⟨b, off, e, hlt, hc⟩ := h (by omega)
  exact ⟨b, off, e, hlt, hc i hi⟩
theorem DRd.below {B : Nat} {w w' : World} {a : Option Addr} {dl : List Inn} (h : DRd B w a dl) (hb : Below B w w') : DRd B w' a dl := by
  intro hp
  obtain ⟨b, off, e, hlt, hc⟩ := h hp
  exact ⟨b, off, e, hlt, fun i hi => ⟨(hb.cell (by exact hlt)).trans (hc i hi).1, (hc i hi).2.below hb⟩⟩
theorem DRd.at {B : Nat} {w : World} {a : Option Addr} {dl : List Inn} (h : DRd B w a dl) {m : Nat} (hm : m < dl.length) : ∃ b off, a = some ⟨b, off, none⟩ ∧ b < B ∧ w.cell? ⟨b, off + m, none⟩ = some (.slice (dl.getD m d0).a (dl.getD m d0).zs.length (dl.getD m d0).c) ∧ RdL B w (dl.getD m d0).a (dl.getD m d0).zs := by
  obtain ⟨b, off, e, hlt, hc⟩ := h (by omega)
  exact ⟨b, off, e, hlt, (hc m hm).1, (hc m hm).2⟩
theorem RdL.mono {B B' : Nat} {w : World} {a : Option Addr} {zs : List Int} (h : RdL B w a zs) (hb : B ≤ B') : RdL B' w a zs := by
  intro hp
  obtain ⟨b, off, e, hlt, hc⟩ := h hp
  exact ⟨b, off, e, by omega, hc⟩
theorem DRd.mono {B B' : Nat} {w : World} {a : Option Addr} {dl : List Inn} (h : DRd B w a dl) (hb : B ≤ B') : DRd B' w a dl := by
  intro hp
  obtain ⟨b, off, e, hlt, hc⟩ := h hp
  exact ⟨b, off, e, by omega, fun i hi => ⟨(hc i hi).1, (hc i hi).2.mono hb⟩⟩

/-- Each is the number of a message. -/
def InR (n : Nat) (L : List Int) : Prop := ∀ x, x ∈ L → 0 ≤ x ∧ x < n

/-- The firstDeliveries struct in block fb. -/
structure FD (w : World) (fb hb ab n : Nat) (mem : Int) : Prop where
  f0 : w.cell? ⟨fb, 0, none⟩ = some (.pointer (some ⟨hb, 0, none⟩))
  f1 : w.cell? ⟨fb, 1, none⟩ = some (.int .i64 mem)
  f2 : w.cell? ⟨fb, 2, none⟩ = some (.slice (some ⟨ab, 0, none⟩) n n)
  z1 : w.frozen? ⟨fb, 1, none⟩ = false

theorem FD.keeps {S : List Nat} {w w' : World} {fb hb ab n : Nat} {mem : Int} (h : FD w fb hb ab n mem) (hk : Keeps S w w') (hS : fb ∉ S) : FD w' fb hb ab n mem :=
  ⟨(hk.cell (p := ⟨fb, 0, none⟩) hS).trans h.f0, (hk.cell (p := ⟨fb, 1, none⟩) hS).trans h.f1, (hk.cell (p := ⟨fb, 2, none⟩) hS).trans h.f2, (hk.frozen (p := ⟨fb, 1, none⟩) hS).trans h.z1⟩
theorem FD.drewN {w : World} {fb hb ab n : Nat} {mem : Int} (h : FD w fb hb ab n mem) (q : Nat) : FD (w.drewN q) fb hb ab n mem := ⟨h.f0, h.f1, h.f2, h.z1⟩
theorem FD.setMem {w : World} {fb hb ab n : Nat} {mem : Int} (h : FD w fb hb ab n mem) (m : Int) : FD (w.setCell ⟨fb, 1, none⟩ (.int .i64 m)) fb hb ab n m :=
  ⟨(World.cell?_setCell_other _ _ _ _ (by simp)).trans h.f0, World.cell?_setCell_same _ _ _ h.f1, (World.cell?_setCell_other _ _ _ _ (by simp)).trans h.f2, by rw [World.frozen?_setCell]; exact h.z1⟩

end Go.Proofs.Qxb6601966a
