/-
  Two contracts of math/bits off the shelf, laid at this program in plain words (by the kit's own tool).
-/
import Derived.Shelf.Bits.Mul64
import Derived.Test.YbulkanzsProg
namespace Go.Proofs
open Go.Shelf
def Yba.lays264_ren : Go.Shelf.Ren := ⟨fun | 264 => 21 | n => n, fun | 53 => 22 | 46 => 76 | n => n, fun | n => n⟩
theorem Yba.lays264 : Go.Proofs.Lays.n264 Yba.prog Yba.lays264_ren := {
  mixed := by kernel_rfl
  f264 := Yba.func21.trans (congrArg some (by kernel_rfl))
  t46 := Yba.underlying76
  a46 := Yba.isAgg76
  z46 := Yba.sizeOf76
  v46 := Yba.zeroValue76
  t53 := Yba.underlying22
  a53 := Yba.isAgg22
  z53 := Yba.sizeOf22
  v53 := Yba.zeroValue22 }
open Go.RowKit Go.Lib in
theorem Yba.bits_Mul64 (x y : Nat) (hx : x < 18446744073709551616) (hy : y < 18446744073709551616) (w : World) :
    Calls Yba.prog 21 #[.int .u64 x, .int .u64 y] w fun e w' => e = .returned (.tuple #[.int .u64 ((x * y / 18446744073709551616 : Nat) : Int), .int .u64 ((x * y % 18446744073709551616 : Nat) : Int)]) ∧ w' = w := Any.bits_Mul64 Yba.lays264 x y hx hy w
def Yba.lays212_ren : Go.Shelf.Ren := ⟨fun | 212 => 19 | 263 => 20 | 264 => 21 | n => n, fun | 46 => 76 | 51 => 79 | 146 => 80 | 53 => 22 | 148 => 82 | n => n, fun | n => n⟩
theorem Yba.lays212 : Go.Proofs.Lays.n212 Yba.prog Yba.lays212_ren := {
  mixed := by kernel_rfl
  f212 := Yba.func19.trans (congrArg some (by kernel_rfl))
  f263 := Yba.func20.trans (congrArg some (by kernel_rfl))
  f264 := Yba.func21.trans (congrArg some (by kernel_rfl))
  t46 := Yba.underlying76
  a46 := Yba.isAgg76
  z46 := Yba.sizeOf76
  v46 := Yba.zeroValue76
  t51 := Yba.underlying79
  a51 := Yba.isAgg79
  z51 := Yba.sizeOf79
  v51 := Yba.zeroValue79
  t53 := Yba.underlying22
  a53 := Yba.isAgg22
  z53 := Yba.sizeOf22
  v53 := Yba.zeroValue22
  t146 := Yba.underlying80
  a146 := Yba.isAgg80
  z146 := Yba.sizeOf80
  v146 := Yba.zeroValue80
  t148 := Yba.underlying82
  a148 := Yba.isAgg82
  z148 := Yba.sizeOf82
  v148 := Yba.zeroValue82 }
open Go.RowKit Go.Lib in
theorem Yba.bits_Mul (x y : Nat) (hx : x < 18446744073709551616) (hy : y < 18446744073709551616) (w : World) :
    Calls Yba.prog 19 #[.int .u64 x, .int .u64 y] w fun e w' => e = .returned (.tuple #[.int .u64 ((x * y / 18446744073709551616 : Nat) : Int), .int .u64 ((x * y % 18446744073709551616 : Nat) : Int)]) ∧ w' = w := Any.bits_Mul Yba.lays212 x y hx hy w
end Go.Proofs
