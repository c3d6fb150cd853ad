/-
  The library's own contracts on internal strconv small, numDigits and formatBase10, laid at this dump (the layings in plain words, by the kit's tool); the name of the table they read, off the given row.
-/
import Derived.Shelf.Strconv.Itoa0
import Derived.Shelf.Strconv.Itoa1
import Derived.Shelf.LaysM
import Derived.Shelf.Strconv.Itoa2
import Derived.Test.Qxb6603132aDoorRows
import Derived.Test.Qxb6603132aDoorText
import Derived.Test.Qxb6603132aDoorSat
namespace Go.Proofs
open Go.Shelf
def Tryd.lays283_ren : Go.Shelf.Ren := ⟨fun | 283 => 23 | n => n, fun | 3 => 3 | 9 => 9 | 4 => 4 | n => n, fun | n => n⟩
theorem Tryd.lays283 : Go.Proofs.Lays.n283 Tryd.prog Tryd.lays283_ren := {
  mixed := by kernel_rfl
  f283 := Tryd.func23.trans (congrArg some (by kernel_rfl))
  t3 := Tryd.underlying3
  a3 := Tryd.isAgg3
  z3 := Tryd.sizeOf3
  v3 := Tryd.zeroValue3
  t4 := Tryd.underlying4
  a4 := Tryd.isAgg4
  z4 := Tryd.sizeOf4
  v4 := Tryd.zeroValue4
  t9 := Tryd.underlying9
  a9 := Tryd.isAgg9
  z9 := Tryd.sizeOf9
  v9 := Tryd.zeroValue9 }
def Tryd.laysM284_ren : Go.Shelf.Ren := ⟨fun | 284 => 24 | 129 => 28 | 317 => 27 | 318 => 29 | n => n, fun | 53 => 42 | 3 => 3 | 212 => 52 | 0 => 0 | 4 => 4 | 46 => 56 | 5 => 5 | 9 => 9 | n => n, fun | 17 => 0 | n => n⟩
theorem Tryd.laysM284 : Go.Proofs.LaysM.n284 Tryd.prog Tryd.laysM284_ren := {
  mixed := by kernel_rfl
  f129 := Tryd.func28.trans (congrArg some (by kernel_rfl))
  f284 := Tryd.func24.trans (congrArg some (by kernel_rfl))
  f317 := Tryd.func27.trans (congrArg some (by kernel_rfl))
  f318 := Tryd.func29.trans (congrArg some (by kernel_rfl))
  t0 := Tryd.underlying0
  a0 := Tryd.isAgg0
  z0 := Tryd.sizeOf0
  v0 := Tryd.zeroValue0
  t3 := Tryd.underlying3
  a3 := Tryd.isAgg3
  z3 := Tryd.sizeOf3
  v3 := Tryd.zeroValue3
  t4 := Tryd.underlying4
  a4 := Tryd.isAgg4
  z4 := Tryd.sizeOf4
  v4 := Tryd.zeroValue4
  t5 := Tryd.underlying5
  a5 := Tryd.isAgg5
  z5 := Tryd.sizeOf5
  v5 := Tryd.zeroValue5
  t9 := Tryd.underlying9
  a9 := Tryd.isAgg9
  z9 := Tryd.sizeOf9
  v9 := Tryd.zeroValue9
  t46 := Tryd.underlying56
  a46 := Tryd.isAgg56
  z46 := Tryd.sizeOf56
  v46 := Tryd.zeroValue56
  t53 := Tryd.underlying42
  a53 := Tryd.isAgg42
  z53 := Tryd.sizeOf42
  v53 := Tryd.zeroValue42
  t212 := Tryd.underlying52
  a212 := Tryd.isAgg52
  z212 := Tryd.sizeOf52
  v212 := Tryd.zeroValue52
  g17 := by kernel_rfl
  i0 := by kernel_rfl
  i3 := by kernel_rfl
  i4 := by kernel_rfl
  i5 := by kernel_rfl
  i9 := by kernel_rfl
  i46 := by kernel_rfl
  i53 := by kernel_rfl
  i212 := by kernel_rfl
  m17 := by kernel_rfl }
def Tryd.lays285_ren : Go.Shelf.Ren := ⟨fun | 285 => 25 | n => n, fun | 37 => 37 | 53 => 42 | 3 => 3 | 4 => 4 | 51 => 53 | 9 => 9 | 5 => 5 | 0 => 0 | n => n, fun | n => n⟩
theorem Tryd.lays285 : Go.Proofs.Lays.n285 Tryd.prog Tryd.lays285_ren := {
  mixed := by kernel_rfl
  f285 := Tryd.func25.trans (congrArg some (by kernel_rfl))
  t0 := Tryd.underlying0
  a0 := Tryd.isAgg0
  z0 := Tryd.sizeOf0
  v0 := Tryd.zeroValue0
  t3 := Tryd.underlying3
  a3 := Tryd.isAgg3
  z3 := Tryd.sizeOf3
  v3 := Tryd.zeroValue3
  t4 := Tryd.underlying4
  a4 := Tryd.isAgg4
  z4 := Tryd.sizeOf4
  v4 := Tryd.zeroValue4
  t5 := Tryd.underlying5
  a5 := Tryd.isAgg5
  z5 := Tryd.sizeOf5
  v5 := Tryd.zeroValue5
  t9 := Tryd.underlying9
  a9 := Tryd.isAgg9
  z9 := Tryd.sizeOf9
  v9 := Tryd.zeroValue9
  t37 := Tryd.underlying37
  a37 := Tryd.isAgg37
  z37 := Tryd.sizeOf37
  v37 := Tryd.zeroValue37
  t51 := Tryd.underlying53
  a51 := Tryd.isAgg53
  z51 := Tryd.sizeOf53
  v51 := Tryd.zeroValue53
  t53 := Tryd.underlying42
  a53 := Tryd.isAgg42
  z53 := Tryd.sizeOf42
  v53 := Tryd.zeroValue42 }
end Go.Proofs

namespace Go.Proofs.Qxb6603132aDoor
open Go Go.RowKit Go.Shelf Go.Sort

/-- The table of powers of ten, as the given row names it. -/
def tabName : String := Rows.fnIndexableWidthKeepsTupleKeysWithinValuesRow.named.headD ""

theorem small_calls (i : Nat) (h : i < 100) (w : World) : Calls Tryd.prog 23 #[.int .i64 i] w fun e w' => e = .returned (.string ⟨(Lib.decDigits i).toArray⟩) ∧ w' = w :=
  Any.internal_strconv_small Tryd.lays283 i h w
theorem digits_calls (u : Nat) (h1 : 1 ≤ u) (h2 : u < 18446744073709551616) (w : World) (htab : Lib.TabIs Tryd.prog w tabName .u64 Lib.pow10Tab) :
    Calls Tryd.prog 24 #[.int .u64 u] w fun e w' => e = .returned (.int .i64 (Lib.nDigits u)) ∧ w' = w :=
  Any.internal_strconv_numDigits Tryd.laysM284 u h1 h2 w htab
theorem format_calls (blk off cap : Nat) (u : Nat) (d : Array UInt8) (w : World) (hH : Holds (fun (b : UInt8) => Value.int .u8 (b.toNat : Int)) w blk off d) (hu : u < 10 ^ d.size) (hu64 : u < 18446744073709551616) (hsz : d.size < 4611686018427387904) :
    Calls Tryd.prog 25 #[.slice (some ⟨blk, off, none⟩) d.size cap, .int .u64 u] w fun e w' =>
      e = .returned (.tuple #[]) ∧ ∃ (n v' : Nat) (dk : Array UInt8), w' = (putRow (fun (b : UInt8) => Value.int .u8 (b.toNat : Int)) w blk off dk).drewN n ∧ Lib.FmtInv d.size u 0 v' dk :=
  Any.internal_strconv_formatBase10 Tryd.lays285 blk off cap u d w hH hu hu64 hsz

end Go.Proofs.Qxb6603132aDoor
