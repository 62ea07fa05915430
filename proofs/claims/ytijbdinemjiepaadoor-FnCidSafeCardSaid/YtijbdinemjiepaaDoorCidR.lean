/- The law FnCidSafe in the form in which a row hands over its arguments. -/
import Derived.Test.YtijbdinemjiepaaDoorCidY
import Derived.Test.YtijbdinemjiepaaDoorCidE
namespace Go.Proofs.YtijbdinemjiepaaDoor
open Go.RowKit

theorem safe_row (a0 a1 a2 : Int) (W : World) (w0 : (Lit.int .u32 a0).wf = true) (w1 : (Lit.int .u8 a1).wf = true) (w2 : (Lit.int .u8 a2).wf = true) (hL : laidMetH Tryd.prog Rows.fnCidSafeRow.laid W) :
    Calls Tryd.prog 4 #[.int .u32 a0, .int .u8 a1, .int .u8 a2] W fun e W' => e = .returned (.bool true) ∧ Below W.heap.size W W' := by
  obtain ⟨b1, b2, b3, he⟩ := errs_of_laid hL
  have h0 : 0 ≤ a0 ∧ a0 < 4294967296 := by simp [Lit.wf, IntKind.min, IntKind.max, IntKind.signed, IntKind.bits] at w0; omega
  have h1 : 0 ≤ a1 ∧ a1 < 256 := by simp [Lit.wf, IntKind.min, IntKind.max, IntKind.signed, IntKind.bits] at w1; omega
  have h2 : 0 ≤ a2 ∧ a2 < 256 := by simp [Lit.wf, IntKind.min, IntKind.max, IntKind.signed, IntKind.bits] at w2; omega
  obtain ⟨n0, rfl⟩ := Int.eq_ofNat_of_zero_le h0.1
  obtain ⟨n1, rfl⟩ := Int.eq_ofNat_of_zero_le h1.1
  obtain ⟨n2, rfl⟩ := Int.eq_ofNat_of_zero_le h2.1
  exact (law_any n0 n1 n2 b1 b2 b3 W (by omega) (by omega) (by omega) he).mono fun e W' h => ⟨h.ret, h.below⟩
end Go.Proofs.YtijbdinemjiepaaDoor
