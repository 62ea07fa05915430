/- Names: a row of texts of the call's own, asked and sorted. -/
import Derived.Sort.OwnSorted
import Derived.Test.YtijbdinemjiepaaDoorWoS
import Derived.Test.YtijbdinemjiepaaDoorWoN
namespace Go.Proofs.YtijbdinemjiepaaDoor
open Go.RowKit Go.Sort Go.Proofs

/-- Texts as cells. -/
def strs (l : List (List UInt8)) : List Value := l.map fun x => .string ⟨x.toArray⟩
theorem strs_length (l : List (List UInt8)) : (strs l).length = l.length := by simp [strs]
theorem strs_snoc (l : List (List UInt8)) (x : List UInt8) : strs (l ++ [x]) = strs l ++ [.string ⟨x.toArray⟩] := by simp [strs]
theorem strs_at (l : List (List UInt8)) (j : Nat) (x : List UInt8) (h : l[j]? = some x) : (strs l)[j]? = some (.string ⟨x.toArray⟩) := by simp [strs, h]
theorem strs_one (l : List (List UInt8)) : ∀ u ∈ strs l, u.oneCell' = true := by
  intro u hu
  obtain ⟨b, _, rfl⟩ := List.mem_map.1 hu
  rfl
theorem isIn_any (base : Nat) (v : Value) (l : List (List UInt8)) (x : List UInt8) (W : World) (h : W.ownsRow base 9 1 v l.length (strs l)) (hl : l.length ≤ 1000) :
    Calls Tryd.prog 44 #[v, .string ⟨x.toArray⟩] W fun e W' => e = .returned (.bool (decide (x ∈ l))) ∧ W = W' := by
  by_cases h0 : l = []
  · subst h0
    obtain ⟨A, c, rfl, _, _⟩ := own_shape h
    refine (Tryd.slices_Contains_string_empty A c ⟨x.toArray⟩ W).mono ?_
    rintro e w' ⟨rfl, rfl⟩
    exact ⟨by simp, rfl⟩
  · have hp : 0 < l.length := List.length_pos_iff.2 h0
    obtain ⟨g, c, rfl, hc, hg, hlt⟩ := own_form h hp
    refine (Tryd.slices_Contains_string g 0 l.length c (l.map fun y => ⟨y.toArray⟩) ⟨x.toArray⟩ W (by simp) (by omega) (fun j hj => ?_)).mono ?_
    · have hj' : j < l.length := by simpa using hj
      have := own_cell h rfl j _ (strs_at l j l[j] (List.getElem?_eq_getElem hj'))
      rw [Nat.zero_add, this]
      simp [List.getD, hj']
    · rintro e w' ⟨rfl, rfl⟩
      refine ⟨?_, rfl⟩
      congr 2
      rw [Bool.eq_iff_iff, Lib.containsS_iff, decide_eq_true_iff, List.take_of_length_le (by simp), List.mem_map]
      constructor
      · rintro ⟨y, hy, e⟩
        have : y = x := by
          have h2 := congrArg (fun s : ByteArray => s.data.toList) e
          simpa using h2
        exact this ▸ hy
      · exact fun hx => ⟨x, hx, rfl⟩
/-- Sorted in place. -/
structure Sorted (base : Nat) (v : Value) (l : List (List UInt8)) (W : World) (r : Ending) (W' : World) : Prop where
  ret : r = .returned (.tuple #[])
  own : W'.ownsRow base 9 1 v l.length (strs (sortW l))
  turn : Turn (fun k => v.ownBlock = some k) W W'
theorem sort_len (l : List (List UInt8)) : (sortW l).length = l.length := by unfold sortW; exact List.length_mergeSort _
theorem sort_any (base : Nat) (v : Value) (l : List (List UInt8)) (W : World) (h : W.ownsRow base 9 1 v l.length (strs l)) (hl : l.length ≤ 1000) :
    Calls Tryd.prog 45 #[v] W (Sorted base v l W) := by
  by_cases h0 : l = []
  · subst h0
    obtain ⟨A, c, rfl, _, _⟩ := own_shape h
    refine (Tryd.slices_Sort_string_none A c W).mono ?_
    rintro e w' ⟨rfl, rfl⟩
    exact ⟨rfl, by rw [show sortW [] = [] from by unfold sortW; simp]; exact h, Turn.refl _ _⟩
  · have hp : 0 < l.length := List.length_pos_iff.2 h0
    rcases h.2 with ⟨_, h1⟩ | ⟨g, cap, cur, rfl, hb, hh, hnc, hcm, hcs, ht⟩
    · omega
    · have ht2 : cur.toList.take l.length = l.map encStr := by rw [Nat.mul_one] at ht; rw [ht]; rfl
      refine (Tryd.slices_Sort_string g 0 cap l W (holds_of_block hh ht2) (Array.getElem?_eq_some_iff.1 hh).1 (by omega)).mono ?_
      rintro e w' ⟨rfl, n, os, rfl⟩
      have hlt := ownsRow_sorted (w := W) (n := n) (os := os) (ss := l) (ts := sortW l) (sort_len l) hb hh hnc hcm hcs
      exact ⟨rfl, hlt, Turn.of_grown (grownBy_sorted (sortW l).toArray) (fun k hk => hk)⟩
end Go.Proofs.YtijbdinemjiepaaDoor
