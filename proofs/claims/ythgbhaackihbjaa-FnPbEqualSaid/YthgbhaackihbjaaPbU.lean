/- Plain law: messages are equal just if they tell the same. -/
import Derived.Test.YthgbhaackihbjaaPbZ
namespace Go.Proofs.Ythgbhaackihbjaa
open Go.RowKit

theorem bytes_beq (s t : ByteArray) : (s.toList == t.toList) = decide (s = t) := by
  rw [Bool.eq_iff_iff, decide_eq_true_iff]
  exact ⟨same_bytes, fun h => by rw [h]; simp⟩
theorem opt_beq (b c : Bool) (l m : List UInt8) : (optBytes (if b then some l else none) == optBytes (if c then some m else none)) =
    (((b && decide (0 < l.length)) == (c && decide (0 < m.length))) && ((if (b && decide (0 < l.length)) then l else []) == (if (c && decide (0 < m.length)) then m else []))) := by
  cases b <;> cases c <;> cases l <;> cases m <;> simp [optBytes]
theorem name_beq (b c : Bool) (s t : ByteArray) : decide ((if b then some s else none) = (if c then some t else none)) = ((b == c) && ((if b then s else ByteArray.empty).toList == (if c then t else ByteArray.empty).toList)) := by
  rw [bytes_beq]
  cases b <;> cases c <;> simp
theorem size_beq (b c : Bool) (s t : Nat) : decide ((if b then some s else none) = (if c then some t else none)) = ((b == c) && ((if b then s else 0) == (if c then t else 0))) := by
  rw [Bool.eq_iff_iff]
  cases b <;> cases c <;> simp
theorem link_law (a b : PLk) : linkEq (ml a) (ml b) = sameLink (looseL a) (looseL b) := by
  obtain ⟨h, n, s, hash, name, size⟩ := a
  obtain ⟨h', n', s', hash', name', size'⟩ := b
  simp only [linkEq, ml, sameLink, looseL, plain, opt_beq, name_beq, size_beq]
  generalize ((h && decide (0 < hash.length)) == (h' && decide (0 < hash'.length))) = b1
  generalize (n == n') = b2
  generalize (s == s') = b3
  rw [Bool.eq_iff_iff]
  simp only [Bool.and_eq_true]
  exact ⟨fun ⟨⟨⟨a1, a2⟩, a3, a4⟩, a5, a6⟩ => ⟨⟨⟨⟨⟨a1, a3⟩, a5⟩, a2⟩, a4⟩, a6⟩, fun ⟨⟨⟨⟨⟨a1, a3⟩, a5⟩, a2⟩, a4⟩, a6⟩ => ⟨⟨⟨a1, a2⟩, a3, a4⟩, a5, a6⟩⟩
theorem links_law : ∀ a b : List PLk, linksEq (a.map ml) (b.map ml) = sameLinks (a.map looseL) (b.map looseL)
  | [], _ => by simp [linksEq, sameLinks]
  | _ :: _, [] => by simp [linksEq, sameLinks]
  | x :: a, y :: b => by
    have h := links_law a b
    have h1 := link_law x y
    simp only [linksEq, sameLinks, List.map_cons, List.zip_cons_cons, List.all_cons] at h ⊢
    rw [h, h1]
theorem node_law (x y : PNd) : nodeEq (mn x) (mn y) = sameNode (loose x) (loose y) := by
  obtain ⟨h, d, l⟩ := x
  obtain ⟨h', d', l'⟩ := y
  simp only [nodeEq, mn, sameNode, loose, links_law, opt_beq, List.length_map]
  generalize sameLinks (l.map looseL) (l'.map looseL) = b1
  generalize decide (l.length = l'.length) = b2
  cases h <;> cases h' <;> cases d <;> cases d' <;> cases b1 <;> cases b2 <;> simp
end Go.Proofs.Ythgbhaackihbjaa
