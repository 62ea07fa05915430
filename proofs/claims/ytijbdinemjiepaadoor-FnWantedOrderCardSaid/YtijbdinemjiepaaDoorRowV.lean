/- Rows that are elements of a slice. -/
import Derived.Test.YtijbdinemjiepaaDoorMem
namespace Go.Proofs.YtijbdinemjiepaaDoor
open Go.RowKit

def RowsV (w : World) (B size : Nat) (vs : List Value) (zss : List (Nat × List Value)) : Prop :=
  vs.length = zss.length ∧ ∀ (i : Nat) (z : Nat × List Value), zss[i]? = some z → ∃ (A : Option Addr) (c : Nat), vs[i]? = some (Value.slice A z.1 c) ∧ z.1 ≤ c ∧ Reads w B size A z.1 z.2 ∧ (∀ u ∈ z.2, u.oneCell' = true)
theorem RowsV.below {w w' : World} {B size : Nat} {vs : List Value} {zss : List (Nat × List Value)} (h : RowsV w B size vs zss) (hb : Below B w w') : RowsV w' B size vs zss :=
  ⟨h.1, fun i zs hz => by
    obtain ⟨A, c, h1, h2, h3, h4⟩ := h.2 i zs hz
    exact ⟨A, c, h1, h2, h3.below hb, h4⟩⟩
theorem RowsV.nil (w : World) (B size : Nat) : RowsV w B size [] [] := ⟨rfl, fun i zs h => by simp at h⟩
theorem RowsV.cons {w : World} {B size : Nat} {vs : List Value} {zss : List (Nat × List Value)} (h : RowsV w B size vs zss) {A : Option Addr} {n c : Nat} {xs : List Value} (hr : Reads w B size A n xs) (hc : n ≤ c) (h1 : ∀ u ∈ xs, u.oneCell' = true) : RowsV w B size (.slice A n c :: vs) ((n, xs) :: zss) := by
  refine ⟨by simp [h.1], fun i ys hy => ?_⟩
  cases i with
  | zero =>
    obtain rfl : (n, xs) = ys := by simpa using hy
    exact ⟨A, c, rfl, hc, hr, h1⟩
  | succ i => exact h.2 i ys (by simpa using hy)
theorem sum_take (zss : List (Nat × List Value)) (j : Nat) : ((zss.take j).map (·.1)).sum ≤ (zss.map (·.1)).sum := by
  have h : (zss.map (·.1)).sum = ((zss.take j).map (·.1)).sum + ((zss.drop j).map (·.1)).sum := by
    rw [← List.sum_append, ← List.map_append, List.take_append_drop]
  omega
end Go.Proofs.YtijbdinemjiepaaDoor
