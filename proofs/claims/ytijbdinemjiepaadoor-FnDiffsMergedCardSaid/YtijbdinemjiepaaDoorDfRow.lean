/- The law FnDiffsMerged in the form in which a row hands over its arguments. -/
import Derived.Test.YtijbdinemjiepaaDoorSized
import Derived.Test.YtijbdinemjiepaaDoorDfY
import Derived.MakeChecks
import Derived.LaidMore
namespace Go.Proofs.YtijbdinemjiepaaDoor
open Go.ChangeShapes Go.WideShapes Go.RowKit

theorem row_u16 {w : World} {a : Option Addr} {len cap : Nat} {zs : List Int} (h : IsRow .u16 w a len cap zs) : len ≤ 9223372036854775807 ∧ ∃ l : List Nat, Reads w w.heap.size 1 a len (u16s l) ∧ ∀ x ∈ l, x < 65536 := by
  obtain ⟨h1, h2, h3, h4⟩ := isRow_reads h
  have hb : ∀ z ∈ zs.take len, 0 ≤ z ∧ z < 65536 := fun z hz => by
    have := h3 z hz
    simp [Lit.wf, IntKind.min, IntKind.max, IntKind.signed, IntKind.bits] at this
    omega
  have hc : len ≤ 9223372036854775807 := by
    rcases h with ⟨rfl, rfl, rfl, rfl⟩ | ⟨x, rfl, hl, hm, _, _, _⟩
    · omega
    · unfold maxLen at hm; omega
  refine ⟨hc, (zs.take len).map Int.toNat, ?_, fun x hx => ?_⟩
  · have e : u16s ((zs.take len).map Int.toNat) = (zs.take len).map fun z => .int .u16 z := by
      unfold u16s
      rw [List.map_map]
      refine List.map_congr_left fun z hz => ?_
      have := hb z hz
      show Value.int .u16 ((z.toNat : Nat) : Int) = .int .u16 z
      rw [Int.toNat_of_nonneg this.1]
    rw [e]
    exact h2
  · obtain ⟨z, hz, rfl⟩ := List.mem_map.1 hx
    have := hb z hz
    omega
theorem diffs_row (A1 : Option Addr) (n1 c1 : Nat) (zs1 : List Int) (A2 : Option Addr) (n2 c2 : Nat) (zs2 : List Int) (W : World) (h1 : IsRow .u16 W A1 n1 c1 zs1) (h2 : IsRow .u16 W A2 n2 c2 zs2) (_ : laidMetH Tryd.prog Rows.fnDiffsMergedRow.laid W) :
    Calls Tryd.prog 3 #[.slice A1 n1 c1, .slice A2 n2 c2] W fun e W' => e = .returned (.bool true) ∧ Below W.heap.size W W' := by
  obtain ⟨k1, l1, r1, b1⟩ := row_u16 h1
  obtain ⟨k2, l2, r2, b2⟩ := row_u16 h2
  exact law_diffs A1 A2 n1 n2 c1 c2 l1 l2 W r1 r2 b1 b2 k1 k2
end Go.Proofs.YtijbdinemjiepaaDoor
