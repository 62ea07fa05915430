/- The law FnFieldsRead in the form in which a row hands over its argument. -/
import Derived.Test.YtijbnmmeecmbjaaDoorFlRow
import Derived.Test.YtijbnmmeecmbjaaDoorFrL
namespace Go.Proofs.YtijbnmmeecmbjaaDoor
open Go.ChangeShapes Go.WideShapes Go.RowKit

theorem read_row (A : Option Addr) (n c : Nat) (zs : List Int) (W : World) (hr : IsRow .u8 W A n c zs) (hL : laidMetH Tryd.prog Rows.fnFieldsReadRow.laid W) :
    Calls Tryd.prog 5 #[.slice A n c] W fun e W' => e = .returned (.bool true) ∧ Below W.heap.size W W' := by
  obtain ⟨a0, a1, a2, a3, he⟩ := errs_of_laid hL
  obtain ⟨h1, h2, l, h3⟩ := hr.reads
  exact (fieldsRead_any A n c W.heap.size l W a0 a1 a2 a3 h3 (Nat.le_refl _) h1 h2 he).mono fun e W' h => ⟨h.ret, h.below⟩
end Go.Proofs.YtijbnmmeecmbjaaDoor
