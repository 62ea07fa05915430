/- The contract of math/bits.Len64 (laid by the shelf's own command, in plain words): for every number of 64 bits. -/
import Derived.Shelf.Strconv.Itoa0
import Derived.Test.YtocdbecakefnnaaDoorProg
namespace Go.Proofs.YtocdbecakefnnaaDoor
open Go.Shelf
def lays129_ren : Go.Shelf.Ren := ⟨fun | 129 => 61 | n => n, fun | 53 => 108 | 3 => 3 | 4 => 4 | 46 => 110 | 5 => 5 | 9 => 9 | n => n, fun | n => n⟩
theorem lays129 : Go.Proofs.Lays.n129 Tryd.prog lays129_ren := {
  mixed := by kernel_rfl
  f129 := Tryd.func61.trans (congrArg some (by kernel_rfl))
  t3 := Tryd.underlying3
  a3 := Tryd.isAgg3
  z3 := Tryd.sizeOf3
  v3 := Tryd.zeroValue3
  t4 := Tryd.underlying4
  a4 := Tryd.isAgg4
  z4 := Tryd.sizeOf4
  v4 := Tryd.zeroValue4
  t5 := Tryd.underlying5
  a5 := Tryd.isAgg5
  z5 := Tryd.sizeOf5
  v5 := Tryd.zeroValue5
  t9 := Tryd.underlying9
  a9 := Tryd.isAgg9
  z9 := Tryd.sizeOf9
  v9 := Tryd.zeroValue9
  t46 := Tryd.underlying110
  a46 := Tryd.isAgg110
  z46 := Tryd.sizeOf110
  v46 := Tryd.zeroValue110
  t53 := Tryd.underlying108
  a53 := Tryd.isAgg108
  z53 := Tryd.sizeOf108
  v53 := Tryd.zeroValue108 }
theorem bits_Len64 (x : Nat) (w : World) (h1 : x < 18446744073709551616) :
    Calls Tryd.prog 61 #[.int .u64 (x : Int)] w fun e w' => e = .returned (.int .i64 (Lib.bitLen x : Nat)) ∧ w = w' :=
  (Any.bits_Len64 lays129 (x : Int) w (by omega) (by omega)).mono fun _ _ ⟨h1, h2⟩ => ⟨h1, h2.symm⟩
end Go.Proofs.YtocdbecakefnnaaDoor
