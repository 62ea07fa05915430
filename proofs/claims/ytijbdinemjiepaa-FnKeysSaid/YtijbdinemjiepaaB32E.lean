/- gobase32: Encode. -/
import Derived.Test.YtijbdinemjiepaaB32K
namespace Go.Proofs.Ytijbdinemjiepaa
open Go.RowKit Go.Lib

theorem only_setb {a w : World} {b : Nat} (h : a.grownBy w (some b)) (i : Nat) (u : Value) : a.grownBy (w.setCell ⟨b, i, none⟩ u) (some b) := only_trans h (only_set w b i u)
theorem Reads.past {w w' : World} {B size n b : Nat} {A : Option Addr} {xs : List Value} (h : Reads w B size A n xs) (hg : w.grownBy w' (some b)) (hB : B ≤ w.heap.size) (hA : ∀ ad, A = some ad → ad.block ≠ b) : Reads w' B size A n xs :=
  ⟨h.1, fun hn => by
    obtain ⟨ad, e, hb, hc⟩ := h.2 hn
    exact ⟨ad, e, hb, fun j u hu => (World.cell?_of_block (hg.block _ (by rw [block_of_add]; omega) (fun e2 => hA ad e (by injection e2 with e2; rw [block_of_add] at e2; exact e2)))).trans (hc j u hu)⟩⟩
theorem enc5_drop (l : List UInt8) : ∀ i, 5 * i ≤ l.length → enc5 (l.drop (5 * i)) = (enc5 l).drop (8 * i) := by
  intro i
  induction i generalizing l with
  | zero => intro _; simp
  | succ i ih =>
    intro h
    match l, h with
    | [], h => simp at h
    | [_], h => simp at h; omega
    | [_, _], h => simp at h; omega
    | [_, _, _], h => simp at h; omega
    | [_, _, _, _], h => simp at h; omega
    | a :: b :: c :: d :: e :: t, h =>
      have h2 : 5 * i ≤ t.length := by simp at h; omega
      rw [show 5 * (i + 1) = 5 * i + 5 by omega, show 8 * (i + 1) = 8 * i + 8 by omega]
      show enc5 (t.drop (5 * i)) = (enc5 t).drop (8 * i)
      exact ih t h2
/-- The row of letters: a slash and the letters. -/
def row32 (l : List UInt8) : List UInt8 := 47 :: (enc5 l).map letter
end Go.Proofs.Ytijbdinemjiepaa
