/-
  Seat b6602448aD: the shelf's contract for math/bits.Mul at this dump, written by the shelf's own tool.
-/
import Derived.Shelf.Bits.Mul64
import Derived.Test.Qxb6602448aDoorProg
namespace Go.Proofs
open Go.Shelf
def Tryd.lays212_ren : Go.Shelf.Ren := ⟨fun | 212 => 26 | 263 => 44 | 264 => 45 | n => n, fun | 46 => 44 | 51 => 63 | 146 => 64 | 53 => 66 | 148 => 67 | n => n, fun | n => n⟩
theorem Tryd.lays212 : Go.Proofs.Lays.n212 Tryd.prog Tryd.lays212_ren := {
  mixed := by kernel_rfl
  f212 := Tryd.func26.trans (congrArg some (by kernel_rfl))
  f263 := Tryd.func44.trans (congrArg some (by kernel_rfl))
  f264 := Tryd.func45.trans (congrArg some (by kernel_rfl))
  t46 := Tryd.underlying44
  a46 := Tryd.isAgg44
  z46 := Tryd.sizeOf44
  v46 := Tryd.zeroValue44
  t51 := Tryd.underlying63
  a51 := Tryd.isAgg63
  z51 := Tryd.sizeOf63
  v51 := Tryd.zeroValue63
  t53 := Tryd.underlying66
  a53 := Tryd.isAgg66
  z53 := Tryd.sizeOf66
  v53 := Tryd.zeroValue66
  t146 := Tryd.underlying64
  a146 := Tryd.isAgg64
  z146 := Tryd.sizeOf64
  v146 := Tryd.zeroValue64
  t148 := Tryd.underlying67
  a148 := Tryd.isAgg67
  z148 := Tryd.sizeOf67
  v148 := Tryd.zeroValue67 }
open Go.RowKit Go.Lib in
theorem Tryd.bits_Mul (x y : Nat) (hx : x < 18446744073709551616) (hy : y < 18446744073709551616) (w : World) :
    Calls Tryd.prog 26 #[.int .u64 x, .int .u64 y] w fun e w' => e = .returned (.tuple #[.int .u64 ((x * y / 18446744073709551616 : Nat) : Int), .int .u64 ((x * y % 18446744073709551616 : Nat) : Int)]) ∧ w' = w := Any.bits_Mul Tryd.lays212 x y hx hy w
end Go.Proofs
