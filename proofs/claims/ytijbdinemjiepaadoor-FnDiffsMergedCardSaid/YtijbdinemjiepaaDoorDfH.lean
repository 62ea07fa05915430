/- A change out of a row of changes. -/
import Derived.Test.YtijbdinemjiepaaDoorDfG
namespace Go.Proofs.YtijbdinemjiepaaDoor
open Go.RowKit

theorem DRow.at_ {w : World} {g : Option Nat} : ∀ {ds : List Dif} {xs : List Value} (_ : DRow w g ds xs) (j : Nat) (d : Dif), ds[j]? = some d → ∃ v, DIn w g d v ∧ ∀ i, i < 4 → xs[4 * j + i]? = v[i]?
  | [], _, _, _, _, h => by simp at h
  | d0 :: t, xs, ⟨v, ys, e, h1, h2⟩, 0, d, h => by
    have hd : d0 = d := by simpa using h
    subst hd
    refine ⟨v, h1, fun i hi => ?_⟩
    rw [e, Nat.mul_zero, Nat.zero_add, List.getElem?_append_left (by rw [h1.length]; exact hi)]
  | d0 :: t, xs, ⟨v, ys, e, h1, h2⟩, j + 1, d, h => by
    obtain ⟨u, hu, hi⟩ := DRow.at_ h2 j d (by simpa using h)
    refine ⟨u, hu, fun i hi4 => ?_⟩
    rw [e, List.getElem?_append_right (by rw [h1.length]; omega), h1.length, show 4 * (j + 1) + i - 4 = 4 * j + i by omega]
    exact hi i hi4
end Go.Proofs.YtijbdinemjiepaaDoor
