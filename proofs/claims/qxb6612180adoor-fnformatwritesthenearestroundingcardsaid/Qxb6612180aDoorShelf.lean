/-
  Three contracts of the guide's shelf (proved once over any program), laid at this program: internal/strconv's small, numDigits, formatBase10. Written by the kit's lay-shelf and lay-plain for this dump.
-/
import Derived.Shelf.Strconv.Itoa0
import Derived.Shelf.Strconv.Itoa1
import Derived.Shelf.LaysM
import Derived.Shelf.Strconv.Itoa2
import Derived.Test.Qxb6612180aDoorRows
namespace Go.Proofs.Qxb6612180aDoor
open Go.Shelf Go.Sort Go.Lib

/-- The library's table of powers of ten, by its name in the row's own list. -/
def tabName : String := Rows.fnFormatWritesTheNearestRoundingRow.named.getD 1 ""
def sh283_ren : Go.Shelf.Ren := ⟨fun | 283 => 26 | n => n, fun | 3 => 3 | 9 => 9 | 4 => 4 | n => n, fun | n => n⟩
theorem sh283 : Go.Proofs.Lays.n283 Tryd.prog sh283_ren := {
  mixed := by kernel_rfl
  f283 := Tryd.func26.trans (congrArg some (by kernel_rfl))
  t3 := Tryd.underlying3
  a3 := Tryd.isAgg3
  z3 := Tryd.sizeOf3
  v3 := Tryd.zeroValue3
  t4 := Tryd.underlying4
  a4 := Tryd.isAgg4
  z4 := Tryd.sizeOf4
  v4 := Tryd.zeroValue4
  t9 := Tryd.underlying9
  a9 := Tryd.isAgg9
  z9 := Tryd.sizeOf9
  v9 := Tryd.zeroValue9 }
theorem small_any (i : Nat) (h : i < 100) (w : World) :
    Calls Tryd.prog 26 #[.int .i64 i] w fun e w' => e = .returned (.string ⟨(Lib.decDigits i).toArray⟩) ∧ w' = w := Any.internal_strconv_small sh283 i h w
def sh284_ren : Go.Shelf.Ren := ⟨fun | 284 => 27 | 129 => 32 | 317 => 31 | 318 => 33 | n => n, fun | 53 => 32 | 3 => 3 | 212 => 54 | 0 => 0 | 4 => 4 | 46 => 58 | 5 => 5 | 9 => 9 | n => n, fun | 17 => 1 | n => n⟩
theorem sh284 : Go.Proofs.LaysM.n284 Tryd.prog sh284_ren := {
  mixed := by kernel_rfl
  f129 := Tryd.func32.trans (congrArg some (by kernel_rfl))
  f284 := Tryd.func27.trans (congrArg some (by kernel_rfl))
  f317 := Tryd.func31.trans (congrArg some (by kernel_rfl))
  f318 := Tryd.func33.trans (congrArg some (by kernel_rfl))
  t0 := Tryd.underlying0
  a0 := Tryd.isAgg0
  z0 := Tryd.sizeOf0
  v0 := Tryd.zeroValue0
  t3 := Tryd.underlying3
  a3 := Tryd.isAgg3
  z3 := Tryd.sizeOf3
  v3 := Tryd.zeroValue3
  t4 := Tryd.underlying4
  a4 := Tryd.isAgg4
  z4 := Tryd.sizeOf4
  v4 := Tryd.zeroValue4
  t5 := Tryd.underlying5
  a5 := Tryd.isAgg5
  z5 := Tryd.sizeOf5
  v5 := Tryd.zeroValue5
  t9 := Tryd.underlying9
  a9 := Tryd.isAgg9
  z9 := Tryd.sizeOf9
  v9 := Tryd.zeroValue9
  t46 := Tryd.underlying58
  a46 := Tryd.isAgg58
  z46 := Tryd.sizeOf58
  v46 := Tryd.zeroValue58
  t53 := Tryd.underlying32
  a53 := Tryd.isAgg32
  z53 := Tryd.sizeOf32
  v53 := Tryd.zeroValue32
  t212 := Tryd.underlying54
  a212 := Tryd.isAgg54
  z212 := Tryd.sizeOf54
  v212 := Tryd.zeroValue54
  g17 := by kernel_rfl
  i0 := by kernel_rfl
  i3 := by kernel_rfl
  i4 := by kernel_rfl
  i5 := by kernel_rfl
  i9 := by kernel_rfl
  i46 := by kernel_rfl
  i53 := by kernel_rfl
  i212 := by kernel_rfl
  m17 := by kernel_rfl }
theorem numDigits_any (u : Nat) (h1 : 1 ≤ u) (h2 : u < 18446744073709551616) (w : World) (htab : Lib.TabIs Tryd.prog w tabName .u64 Lib.pow10Tab) :
    Calls Tryd.prog 27 #[.int .u64 u] w fun e w' => e = .returned (.int .i64 (Lib.nDigits u)) ∧ w' = w := Any.internal_strconv_numDigits sh284 u h1 h2 w htab
def sh285_ren : Go.Shelf.Ren := ⟨fun | 285 => 28 | n => n, fun | 37 => 35 | 53 => 32 | 3 => 3 | 4 => 4 | 51 => 55 | 9 => 9 | 5 => 5 | 0 => 0 | n => n, fun | n => n⟩
theorem sh285 : Go.Proofs.Lays.n285 Tryd.prog sh285_ren := {
  mixed := by kernel_rfl
  f285 := Tryd.func28.trans (congrArg some (by kernel_rfl))
  t0 := Tryd.underlying0
  a0 := Tryd.isAgg0
  z0 := Tryd.sizeOf0
  v0 := Tryd.zeroValue0
  t3 := Tryd.underlying3
  a3 := Tryd.isAgg3
  z3 := Tryd.sizeOf3
  v3 := Tryd.zeroValue3
  t4 := Tryd.underlying4
  a4 := Tryd.isAgg4
  z4 := Tryd.sizeOf4
  v4 := Tryd.zeroValue4
  t5 := Tryd.underlying5
  a5 := Tryd.isAgg5
  z5 := Tryd.sizeOf5
  v5 := Tryd.zeroValue5
  t9 := Tryd.underlying9
  a9 := Tryd.isAgg9
  z9 := Tryd.sizeOf9
  v9 := Tryd.zeroValue9
  t37 := Tryd.underlying35
  a37 := Tryd.isAgg35
  z37 := Tryd.sizeOf35
  v37 := Tryd.zeroValue35
  t51 := Tryd.underlying55
  a51 := Tryd.isAgg55
  z51 := Tryd.sizeOf55
  v51 := Tryd.zeroValue55
  t53 := Tryd.underlying32
  a53 := Tryd.isAgg32
  z53 := Tryd.sizeOf32
  v53 := Tryd.zeroValue32 }
open Go.RowKit Go.Sort Go.Lib in
theorem formatBase10_any (blk off cap : Nat) (u : Nat) (d : Array UInt8) (w : World) (hH : Holds (fun (b : UInt8) => Value.int .u8 (b.toNat : Int)) w blk off d) (hu : u < 10 ^ d.size) (hu64 : u < 18446744073709551616) (hsz : d.size < 4611686018427387904) :
    Calls Tryd.prog 28 #[.slice (some ⟨blk, off, none⟩) d.size cap, .int .u64 u] w fun e w' =>
      e = .returned (.tuple #[]) ∧ ∃ (n v' : Nat) (dk : Array UInt8), w' = (putRow (fun (b : UInt8) => Value.int .u8 (b.toNat : Int)) w blk off dk).drewN n ∧ FmtInv d.size u 0 v' dk := Any.internal_strconv_formatBase10 sh285 blk off cap u d w hH hu hu64 hsz
end Go.Proofs.Qxb6612180aDoor
