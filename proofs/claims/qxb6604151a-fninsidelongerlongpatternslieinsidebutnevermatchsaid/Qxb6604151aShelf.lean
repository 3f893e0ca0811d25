/-
  math/bits.Mul off the shelf, laid in plain words.
-/
import Derived.Shelf.Bits.Mul64
import Derived.Test.Qxb6604151aProg
namespace Go.Proofs
open Go.Shelf
def Try.lays212_ren : Go.Shelf.Ren := ⟨fun | 212 => 10 | 263 => 15 | 264 => 16 | n => n, fun | 46 => 30 | 51 => 36 | 146 => 37 | 53 => 39 | 148 => 40 | n => n, fun | n => n⟩
theorem Try.lays212 : Go.Proofs.Lays.n212 Try.prog Try.lays212_ren := {
  mixed := by kernel_rfl
  f212 := Try.func10.trans (congrArg some (by kernel_rfl))
  f263 := Try.func15.trans (congrArg some (by kernel_rfl))
  f264 := Try.func16.trans (congrArg some (by kernel_rfl))
  t46 := Try.underlying30
  a46 := Try.isAgg30
  z46 := Try.sizeOf30
  v46 := Try.zeroValue30
  t51 := Try.underlying36
  a51 := Try.isAgg36
  z51 := Try.sizeOf36
  v51 := Try.zeroValue36
  t53 := Try.underlying39
  a53 := Try.isAgg39
  z53 := Try.sizeOf39
  v53 := Try.zeroValue39
  t146 := Try.underlying37
  a146 := Try.isAgg37
  z146 := Try.sizeOf37
  v146 := Try.zeroValue37
  t148 := Try.underlying40
  a148 := Try.isAgg40
  z148 := Try.sizeOf40
  v148 := Try.zeroValue40 }
theorem Try.bits_Mul (x y : Nat) (hx : x < 18446744073709551616) (hy : y < 18446744073709551616) (w : World) :
    Calls Try.prog 10 #[.int .u64 x, .int .u64 y] w fun e w' => e = .returned (.tuple #[.int .u64 ((x * y / 18446744073709551616 : Nat) : Int), .int .u64 ((x * y % 18446744073709551616 : Nat) : Int)]) ∧ w' = w := Any.bits_Mul Try.lays212 x y hx hy w
end Go.Proofs
