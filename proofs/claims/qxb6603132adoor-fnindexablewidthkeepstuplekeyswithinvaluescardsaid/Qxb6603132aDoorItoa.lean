/-
  strconv.AppendInt at base 10, onto the text, of a number that is not negative.
-/
import Derived.Test.Qxb6603132aDoorDigits
import Derived.Lib.Hide
import Derived.Lib.Slices
import Derived.Lib.ItoaWalk
import Derived.BigCall
import Derived.BigGuard
import Derived.CellFam
namespace Go.Proofs.Qxb6603132aDoor
open Go Go.RowKit Go.Shelf Go.Sort

def TPost (sb : Nat) (w0 : World) (m : Nat) (e : Ending) (w' : World) : Prop := ∃ v' m', e = .returned v' ∧ m' ≤ m + 20 ∧ TS sb w0 w' v' m'

set_option maxHeartbeats 6400000 in
set_option maxRecDepth 100000 in
theorem uint_small {sb : Nat} {w0 w : World} {v : Value} {m : Nat} (h : TS sb w0 w v m) (u : Nat) (hu : u < 100) (hlim : m + 20 ≤ 140737488355328) :
    Calls Tryd.prog 22 #[v, .int .u64 u, .int .i64 10] w (TPost sb w0 m) := by
  have hlen : (Lib.decDigits u).length ≤ 20 := by
    rw [Lib.decDigits_length]
    by_cases h10 : u < 10
    · rw [Lib.nDigits_small h10]; omega
    · rw [Lib.nDigits_big h10, Lib.nDigits_small (show u / 10 < 10 by omega)]; omega
  have hsz : (⟨(Lib.decDigits u).toArray⟩ : ByteArray).size = (Lib.decDigits u).length := by simp [ByteArray.size]
  have H := hideS h
  have hu' : (u : Int) < 100 := by omega
  clear h
  go_enter Tryd.func22, Tryd.ntmps22
  go_wp2_with fail
  refine (small_calls u hu _).mono ?_
  rintro e w' ⟨rfl, rfl⟩
  go_wp2_with (at_builtin; refine wpList_append_ts_string rfl _ _ rfl rfl H.out ⟨(Lib.decDigits u).toArray⟩ rfl (by rw [hsz]; omega) ?_)
  intro v' w1 h1
  have H1 := hideS h1
  clear h1
  go_wp2
  go_ret
  exact ⟨v', _, rfl, by omega, H1.out⟩

set_option maxHeartbeats 12800000 in
set_option maxRecDepth 100000 in
theorem uint_big {sb : Nat} {w0 w : World} {v : Value} {m : Nat} (h : TS sb w0 w v m) (u : Nat) (hu : 100 ≤ u) (hu64 : u < 18446744073709551616) (hlim : m + 20 ≤ 140737488355328) (htab : Lib.TabIs Tryd.prog w tabName .u64 Lib.pow10Tab) :
    Calls Tryd.prog 22 #[v, .int .u64 u, .int .i64 10] w (TPost sb w0 m) := by
  have hu1 : 1 ≤ u := by omega
  have hnd20 : Lib.nDigits u ≤ 20 := by have := Lib.numDigits_eq u hu1 hu64; split at this <;> omega
  have hsl : ∀ W, (Instr.sliceAt 45 (.pointer (some ⟨w.heap.size, 0, none⟩)) none (some (.int .i64 (Lib.nDigits u : Int))) none).run Tryd.prog W = .ok (.slice (some ⟨w.heap.size, 0, none⟩) (Lib.nDigits u) 24) W := fun W => by
    have hal : Tryd.prog.arrayLen 45 = 24 := by simp [Program.arrayLen, Tryd.underlying45]
    rw [run_sliceAt_array_h W 45 ⟨w.heap.size, 0, none⟩ (by simp [Program.arrayLen, Program.elem, Tryd.underlying45]) .i64 (Lib.nDigits u : Int) (by omega) (by rw [hal]; omega)]
    go_simp
  have hH0 := Lib.holds_zero0 w 45 (Lib.nDigits u) (by omega)
  have hfmt := format_calls w.heap.size 0 24 u (Array.replicate (Lib.nDigits u) 0) (w.alloc (.cells Lib.zeros24 45)) hH0 (by rw [Array.size_replicate]; exact Lib.lt_pow_nDigits u) hu64 (by rw [Array.size_replicate]; omega)
  rw [Array.size_replicate] at hfmt
  have HH0 := Lib.hid hH0
  have iu : (100 : Int) ≤ (u : Int) := by omega
  have H := hideS h
  clear hH0 h
  go_enter Tryd.func22, Tryd.ntmps22
  go_wp2_with fail
  refine (digits_calls u hu1 hu64 _ (Lib.tabIs_alloc htab _)).mono ?_
  rintro e w' ⟨rfl, rfl⟩
  go_wp2_with fail
  refine hfmt.mono ?_
  rintro e w' ⟨rfl, k, v', dk, rfl, hF⟩
  have hcells : ∀ j u', (Lib.byteCells (Lib.decDigits u))[j]? = some u' → ((putRow (fun (b : UInt8) => Value.int .u8 (b.toNat : Int)) (w.alloc (.cells Lib.zeros24 45)) w.heap.size 0 dk).drewN k).cell? ((⟨w.heap.size, 0, none⟩ : Addr).add j) = some u' := by
    intro j u' hj
    have hjl : j < (Lib.decDigits u).length := by
      have h5 := (List.getElem?_eq_some_iff.1 hj).1
      rwa [Lib.byteCells_length] at h5
    have e5 : (Lib.byteCells (Lib.decDigits u))[j]? = some (Value.int .u8 ((Lib.decDigits u)[j].toNat : Int)) := by simp [Lib.byteCells, hjl]
    rw [e5] at hj
    cases hj
    rw [Lib.row_is_numeral hF j hjl, Lib.add_plain, World.cell?_drewN]
    exact cell?_putRow (fun (b : UInt8) => Value.int .u8 (b.toNat : Int)) _ w.heap.size 0 _ dk HH0.out (by rw [hF.size, Array.size_replicate]) j (by rw [hF.size]; rw [Lib.decDigits_length] at hjl; exact hjl)
  obtain ⟨os, eo⟩ := Lib.fin_at w (.cells Lib.zeros24 45) dk k 0
  have hT2 : TS sb w0 ((putRow (fun (b : UInt8) => Value.int .u8 (b.toNat : Int)) (w.alloc (.cells Lib.zeros24 45)) w.heap.size 0 dk).drewN k) v m := by rw [eo]; exact H.out.more (Lib.below_grow _ w (Nat.le_refl _) k os)
  generalize (putRow (fun (b : UInt8) => Value.int .u8 (b.toNat : Int)) (w.alloc (.cells Lib.zeros24 45)) w.heap.size 0 dk).drewN k = W2 at hcells hT2 ⊢
  have HT2 := hideS hT2
  have Hcells := hideS hcells
  clear eo HH0 hfmt hF H hT2 hcells
  have hdl : (Lib.decDigits u).length = Lib.nDigits u := Lib.decDigits_length u
  have Hdl := hideS hdl
  clear hdl
  go_wp2_with (at_builtin; refine wpList_append_ts rfl _ _ rfl rfl HT2.out (Lib.decDigits u) (Lib.nDigits u) 24 ⟨w.heap.size, 0, none⟩ rfl Hdl.out Hcells.out (by omega) ?_)
  intro v2 w3 h3
  have H3 := hideS h3
  clear h3
  go_wp2
  go_ret
  exact ⟨v2, _, rfl, by omega, H3.out⟩

theorem uint_calls {sb : Nat} {w0 w : World} {v : Value} {m : Nat} (h : TS sb w0 w v m) (u : Nat) (hu64 : u < 18446744073709551616) (hlim : m + 20 ≤ 140737488355328) (htab : Lib.TabIs Tryd.prog w tabName .u64 Lib.pow10Tab) :
    Calls Tryd.prog 22 #[v, .int .u64 u, .int .i64 10] w (TPost sb w0 m) := by
  by_cases hu : u < 100
  · exact uint_small h u hu hlim
  · exact uint_big h u (by omega) hu64 hlim htab

set_option maxRecDepth 100000 in
theorem int_calls {sb : Nat} {w0 w : World} {v : Value} {m : Nat} (h : TS sb w0 w v m) (u : Nat) (hu : u ≤ 1048576) (hlim : m + 20 ≤ 140737488355328) (htab : Lib.TabIs Tryd.prog w tabName .u64 Lib.pow10Tab) :
    Calls Tryd.prog 20 #[v, .int .i64 (u : Int), .int .i64 10] w (TPost sb w0 m) := by
  have H := hideS h
  have Ht := hideS htab
  have h0 : ¬ (u : Int) < 0 := by omega
  clear h htab
  go_enter Tryd.func20, Tryd.ntmps20
  go_wp2_with fail
  refine (uint_calls H.out u (by omega) hlim Ht.out).mono ?_
  rintro e w' ⟨v', m', rfl, hm, h'⟩
  have H' := hideS h'
  clear h'
  go_wp2
  go_ret
  exact ⟨v', m', rfl, hm, H'.out⟩

set_option maxRecDepth 100000 in
theorem appendInt_calls {sb : Nat} {w0 w : World} {v : Value} {m : Nat} (h : TS sb w0 w v m) (u : Nat) (hu : u ≤ 1048576) (hlim : m + 20 ≤ 140737488355328) (htab : Lib.TabIs Tryd.prog w tabName .u64 Lib.pow10Tab) :
    Calls Tryd.prog 18 #[v, .int .i64 (u : Int), .int .i64 10] w (TPost sb w0 m) := by
  have H := hideS h
  have Ht := hideS htab
  clear h htab
  go_enter Tryd.func18, Tryd.ntmps18
  go_wp2_with fail
  refine (int_calls H.out u hu hlim Ht.out).mono ?_
  rintro e w' ⟨v', m', rfl, hm, h'⟩
  have H' := hideS h'
  clear h'
  go_wp2
  go_ret
  exact ⟨v', m', rfl, hm, H'.out⟩

end Go.Proofs.Qxb6603132aDoor
