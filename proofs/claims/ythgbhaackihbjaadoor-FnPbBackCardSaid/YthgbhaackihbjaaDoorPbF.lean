/- Small words on bytes. -/
import Derived.Test.YthgbhaackihbjaaDoorPbV
namespace Go.Proofs.YthgbhaackihbjaaDoor
open Go.RowKit

theorem key2 (k : Nat) (hk : k ≤ 15) : bits .or .u8 ((k : Int) * 8) 2 = ((8 * k + 2 : Nat) : Int) := by
  have h : bits .or .u8 ((8 * k : Nat) : Int) 2 = ((8 * k ||| 2 : Nat) : Int) := u8_or_nat _ 2 (by omega) (by omega)
  rw [show ((k : Int) * 8) = ((8 * k : Nat) : Int) by omega, h, nat_join 3 (8 * k) 2 (by omega) (by omega)]
theorem own_lit (W : World) (e : TypeId) (cs : List Value) (hm : cs.length ≤ maxLen) : (W.alloc (.cells cs.toArray e)).ownsRow W.heap.size e 1 (.slice (some ⟨W.heap.size, 0, none⟩) cs.length cs.length) cs.length cs := by
  have h := (Blk.new W e cs.toArray).own W.heap.size cs.length cs.length (Nat.le_refl _) (Nat.le_refl _) hm (by simp)
  simpa using h

end Go.Proofs.YthgbhaackihbjaaDoor
