/-
  DERIVED: THE SHELF's CONTRACTS AT THIS DUMP, IN PLAIN WORDS (tools/lay-plain.mjs out of 'YbaShelf.lean', which tools/lay-shelf.mjs wrote): THE SAME DECLARATIONS UNDER THE SAME NAMES: 'import', 'namespace', 'open', 'def', 'theorem' AND NOTHING ELSE: no command of the shelf's: FOR A HAND-IN. Each laying: the table of numbers ('.._ren') and one theorem, a field a fact of the dump's own or the kernel's comparison; each contract: ONE APPLICATION.
-/
import Derived.Shelf.Bits.Mul64
import Derived.Test.YbulkdckoProg
namespace Go.Proofs
open Go.Shelf
def Yba.lays264_ren : Go.Shelf.Ren := ⟨fun | 264 => 21 | n => n, fun | 53 => 60 | 46 => 52 | n => n, fun | n => n⟩
theorem Yba.lays264 : Go.Proofs.Lays.n264 Yba.prog Yba.lays264_ren := {
  mixed := by kernel_rfl
  f264 := Yba.func21.trans (congrArg some (by kernel_rfl))
  t46 := Yba.underlying52
  a46 := Yba.isAgg52
  z46 := Yba.sizeOf52
  v46 := Yba.zeroValue52
  t53 := Yba.underlying60
  a53 := Yba.isAgg60
  z53 := Yba.sizeOf60
  v53 := Yba.zeroValue60 }
open Go.RowKit Go.Lib in
theorem Yba.bits_Mul64 (x y : Nat) (hx : x < 18446744073709551616) (hy : y < 18446744073709551616) (w : World) :
    Calls Yba.prog 21 #[.int .u64 x, .int .u64 y] w fun e w' => e = .returned (.tuple #[.int .u64 ((x * y / 18446744073709551616 : Nat) : Int), .int .u64 ((x * y % 18446744073709551616 : Nat) : Int)]) ∧ w' = w := Any.bits_Mul64 Yba.lays264 x y hx hy w
def Yba.lays212_ren : Go.Shelf.Ren := ⟨fun | 212 => 17 | 263 => 20 | 264 => 21 | n => n, fun | 46 => 52 | 51 => 29 | 146 => 58 | 53 => 60 | 148 => 61 | n => n, fun | n => n⟩
theorem Yba.lays212 : Go.Proofs.Lays.n212 Yba.prog Yba.lays212_ren := {
  mixed := by kernel_rfl
  f212 := Yba.func17.trans (congrArg some (by kernel_rfl))
  f263 := Yba.func20.trans (congrArg some (by kernel_rfl))
  f264 := Yba.func21.trans (congrArg some (by kernel_rfl))
  t46 := Yba.underlying52
  a46 := Yba.isAgg52
  z46 := Yba.sizeOf52
  v46 := Yba.zeroValue52
  t51 := Yba.underlying29
  a51 := Yba.isAgg29
  z51 := Yba.sizeOf29
  v51 := Yba.zeroValue29
  t53 := Yba.underlying60
  a53 := Yba.isAgg60
  z53 := Yba.sizeOf60
  v53 := Yba.zeroValue60
  t146 := Yba.underlying58
  a146 := Yba.isAgg58
  z146 := Yba.sizeOf58
  v146 := Yba.zeroValue58
  t148 := Yba.underlying61
  a148 := Yba.isAgg61
  z148 := Yba.sizeOf61
  v148 := Yba.zeroValue61 }
open Go.RowKit Go.Lib in
/-- math/bits.Mul: "Mul returns the full-width product of x and y": on a machine of 64 bits: Mul64's. (LAID: no walk: one application.) -/
theorem Yba.bits_Mul (x y : Nat) (hx : x < 18446744073709551616) (hy : y < 18446744073709551616) (w : World) :
    Calls Yba.prog 17 #[.int .u64 x, .int .u64 y] w fun e w' => e = .returned (.tuple #[.int .u64 ((x * y / 18446744073709551616 : Nat) : Int), .int .u64 ((x * y % 18446744073709551616 : Nat) : Int)]) ∧ w' = w := Any.bits_Mul Yba.lays212 x y hx hy w
end Go.Proofs
