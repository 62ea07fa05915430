/- The law FnPbBack in the form in which a row hands over its argument. -/
import Derived.Test.YthgbhaackihbjaaDoorPnE
import Derived.Test.YthgbhaackihbjaaDoorPoB
import Derived.Test.YthgbhaackihbjaaDoorPbY
namespace Go.Proofs.YthgbhaackihbjaaDoor
open Go.ChangeShapes Go.WideShapes Go.RowKit

theorem back_row (x : PNd) (v : Value) (W : World) (hx : NodeArg W W.heap.size x v) (hL : laidMetH Tryd.prog Rows.fnPbBackRow.laid W) :
    Calls Tryd.prog 4 #[v] W fun e W' => e = .returned (.bool true) ∧ Below W.heap.size W W' := by
  obtain ⟨a0, a1, a2, he⟩ := errs_back hL
  exact (back_any x v W.heap.size W a0 a1 a2 hx (Nat.le_refl _) he).mono fun e W' h => ⟨h.ret, h.below⟩
end Go.Proofs.YthgbhaackihbjaaDoor
