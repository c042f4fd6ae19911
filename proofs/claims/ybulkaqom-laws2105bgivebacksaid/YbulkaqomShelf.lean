/-
  DERIVED: THE SHELF's CONTRACT FOR math.bits.Mul64 AT THIS DUMP, IN PLAIN WORDS (written by the kit's tools lay-shelf and lay-plain).
-/
import Derived.Shelf.Bits.Mul64
import Derived.Test.YbulkaqomProg
namespace Go.Proofs
open Go.Shelf
def Yba.lays264_ren : Go.Shelf.Ren := ⟨fun | 264 => 56 | n => n, fun | 53 => 34 | 46 => 122 | n => n, fun | n => n⟩
theorem Yba.lays264 : Go.Proofs.Lays.n264 Yba.prog Yba.lays264_ren := {
  mixed := by kernel_rfl
  f264 := Yba.func56.trans (congrArg some (by kernel_rfl))
  t46 := Yba.underlying122
  a46 := Yba.isAgg122
  z46 := Yba.sizeOf122
  v46 := Yba.zeroValue122
  t53 := Yba.underlying34
  a53 := Yba.isAgg34
  z53 := Yba.sizeOf34
  v53 := Yba.zeroValue34 }
open Go.RowKit Go.Lib in
theorem Yba.bits_Mul64 (x y : Nat) (hx : x < 18446744073709551616) (hy : y < 18446744073709551616) (w : World) :
    Calls Yba.prog 56 #[.int .u64 x, .int .u64 y] w fun e w' => e = .returned (.tuple #[.int .u64 ((x * y / 18446744073709551616 : Nat) : Int), .int .u64 ((x * y % 18446744073709551616 : Nat) : Int)]) ∧ w' = w := Any.bits_Mul64 Yba.lays264 x y hx hy w
end Go.Proofs
