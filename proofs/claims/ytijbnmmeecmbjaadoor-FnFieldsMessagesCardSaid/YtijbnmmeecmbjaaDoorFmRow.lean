/- The law FnFieldsMessages in the form in which a row hands over its arguments. -/
import Derived.Test.YtijbnmmeecmbjaaDoorFlRow
import Derived.Test.YtijbnmmeecmbjaaDoorFmL
namespace Go.Proofs.YtijbnmmeecmbjaaDoor
open Go.ChangeShapes Go.WideShapes Go.RowKit

theorem u64_of_wf {z : Int} (h : (Lit.int .u64 z).wf = true) : ∃ x : Nat, z = (x : Int) ∧ x < 18446744073709551616 := by
  simp [Lit.wf, IntKind.min, IntKind.max, IntKind.signed, IntKind.bits] at h
  exact ⟨z.toNat, by omega, by omega⟩
theorem messages_row (has : Bool) (A : Option Addr) (n c : Nat) (zs : List Int) (t f h : Int) (W : World) (hr : IsRow .u8 W A n c zs) (ht : (Lit.int .u64 t).wf = true) (hf : (Lit.int .u64 f).wf = true) (hh : (Lit.int .u64 h).wf = true) (hL : laidMetH Tryd.prog Rows.fnFieldsMessagesRow.laid W) :
    Calls Tryd.prog 4 #[.bool has, .slice A n c, .int .u64 t, .int .u64 f, .int .u64 h] W fun e W' => e = .returned (.bool true) ∧ Below W.heap.size W W' := by
  obtain ⟨a0, a1, a2, a3, he⟩ := errs_of_laid hL
  obtain ⟨_, _, l, h3⟩ := hr.reads
  obtain ⟨x, rfl, hx⟩ := u64_of_wf ht
  obtain ⟨y, rfl, hy⟩ := u64_of_wf hf
  obtain ⟨z, rfl, hz⟩ := u64_of_wf hh
  exact (fieldsMessages_any has A n c W.heap.size x y z l W a0 a1 a2 a3 h3 (Nat.le_refl _) hx hy hz he).mono fun e W' h => ⟨h.ret, h.below⟩
end Go.Proofs.YtijbnmmeecmbjaaDoor
