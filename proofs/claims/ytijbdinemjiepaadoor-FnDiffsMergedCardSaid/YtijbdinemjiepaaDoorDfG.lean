/- laws.sameDiff, where both tell the same. -/
import Derived.Test.YtijbdinemjiepaaDoorDfF
import Derived.Test.YtijbdinemjiepaaDoorStd
namespace Go.Proofs.YtijbdinemjiepaaDoor
open Go.RowKit

set_option maxRecDepth 100000 in
set_option maxHeartbeats 4000000 in
theorem sameDiff_any (ty : Nat) (P : ByteArray) (l1 l2 : List UInt8) (A1 A2 A1' A2' : Option Addr) (n1 n2 c1 c2 c1' c2' : Nat) (w : World) (h1 : Reads w w.heap.size 1 A1 n1 (u8s l1)) (h2 : Reads w w.heap.size 1 A2 n2 (u8s l2)) (h1' : Reads w w.heap.size 1 A1' n1 (u8s l1)) (h2' : Reads w w.heap.size 1 A2' n2 (u8s l2)) :
    Calls Tryd.prog 11 #[.agg #[.int .i64 ty, .string P, .slice A1 n1 c1, .slice A2 n2 c2], .agg #[.int .i64 ty, .string P, .slice A1' n1 c1', .slice A2' n2 c2']] w fun e w' => e = .returned (.bool true) ∧ Below w.heap.size w w' := by
  have HB := Lib.hid (below_one w (.cells #[.int .i64 ty, .string P, .slice A1 n1 c1, .slice A2 n2 c2] 32))
  have HB2 := Lib.hid (below_alloc HB.out (.cells #[.int .i64 ty, .string P, .slice A1' n1 c1', .slice A2' n2 c2'] 32))
  have E1 := Lib.hid (fun W (hb : Below w.heap.size w W) => equal_u8 A1 A1' n1 c1 n1 c1' _ _ l1 l1 W (h1.below hb) (h1'.below hb))
  have E2 := Lib.hid (fun W (hb : Below w.heap.size w W) => equal_u8 A2 A2' n2 c2 n2 c2' _ _ l2 l2 W (h2.below hb) (h2'.below hb))
  clear h1 h2 h1' h2'
  go_enter Tryd.func11, Tryd.ntmps11
  go_wp2_with (first | (go_at_call 36; (with_reducible refine (E1.out _ HB2.out).mono ?_); rw [sameB_self]; rintro e w' ⟨rfl, rfl⟩) | (go_at_call 36; (with_reducible refine (E2.out _ HB2.out).mono ?_); rw [sameB_self]; rintro e w' ⟨rfl, rfl⟩) | fail)
  go_ret
  exact ⟨rfl, HB2.out⟩
end Go.Proofs.YtijbdinemjiepaaDoor
