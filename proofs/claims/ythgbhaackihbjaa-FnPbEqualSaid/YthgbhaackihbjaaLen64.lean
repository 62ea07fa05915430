/- The contract of math/bits.Len64 (laid by the shelf's own command, in plain words): for every number of 64 bits. -/
import Derived.Shelf.Strconv.Itoa0
import Derived.Test.YthgbhaackihbjaaProg
namespace Go.Proofs.Ythgbhaackihbjaa
open Go.Shelf
def lays129_ren : Go.Shelf.Ren := ⟨fun | 129 => 34 | n => n, fun | 53 => 32 | 3 => 3 | 4 => 4 | 46 => 59 | 5 => 5 | 9 => 9 | n => n, fun | n => n⟩
theorem lays129 : Go.Proofs.Lays.n129 Try.prog lays129_ren := {
  mixed := by kernel_rfl
  f129 := Try.func34.trans (congrArg some (by kernel_rfl))
  t3 := Try.underlying3
  a3 := Try.isAgg3
  z3 := Try.sizeOf3
  v3 := Try.zeroValue3
  t4 := Try.underlying4
  a4 := Try.isAgg4
  z4 := Try.sizeOf4
  v4 := Try.zeroValue4
  t5 := Try.underlying5
  a5 := Try.isAgg5
  z5 := Try.sizeOf5
  v5 := Try.zeroValue5
  t9 := Try.underlying9
  a9 := Try.isAgg9
  z9 := Try.sizeOf9
  v9 := Try.zeroValue9
  t46 := Try.underlying59
  a46 := Try.isAgg59
  z46 := Try.sizeOf59
  v46 := Try.zeroValue59
  t53 := Try.underlying32
  a53 := Try.isAgg32
  z53 := Try.sizeOf32
  v53 := Try.zeroValue32 }
theorem bits_Len64 (x : Nat) (w : World) (h1 : x < 18446744073709551616) :
    Calls Try.prog 34 #[.int .u64 (x : Int)] w fun e w' => e = .returned (.int .i64 (Lib.bitLen x : Nat)) ∧ w = w' :=
  (Any.bits_Len64 lays129 (x : Int) w (by omega) (by omega)).mono fun _ _ ⟨h1, h2⟩ => ⟨h1, h2.symm⟩
end Go.Proofs.Ythgbhaackihbjaa
