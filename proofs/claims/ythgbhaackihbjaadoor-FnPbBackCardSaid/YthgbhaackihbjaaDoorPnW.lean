/- A row of links by value that a call has made: its cells, and what they point to. -/
import Derived.Test.YthgbhaackihbjaaDoorPnL
namespace Go.Proofs.YthgbhaackihbjaaDoor
open Go.RowKit

theorem infoPk : (Tryd.prog.info? 53).map (fun i => (i.zero, i.size, i.bytes)) = some (some (.agg #[.bool false, .bool false, .bool false, .slice none 0 0, .string ByteArray.empty, .int .u64 0]), 6, 56) := by kernel_rfl
def cellsL (l : PLk) (v : Value) : List Value := [.bool l.hh, .bool l.hn, .bool l.hs, v, .string l.name, .int .u64 l.size]
theorem cellsL_one (l : PLk) (A : Option Addr) (n c : Nat) : ∀ u ∈ cellsL l (.slice A n c), u.oneCell' = true := by
  intro u hu
  simp [cellsL] at hu
  rcases hu with rfl | rfl | rfl | rfl | rfl | rfl <;> rfl
theorem Reads.regroup {w : World} {B k : Nat} {A : Option Addr} {xs : List Value} (h : Reads w B 1 A k xs) (hk : 0 < k) : Reads w B k A 1 xs := ⟨by have := h.1; omega, fun _ => h.2 hk⟩
/-- The cells of links, one behind the other; each hash in a row of the call's own. -/
structure LVo (w : World) (lo : Nat) (ls : List PLk) (vs : List Value) : Prop where
  len : vs.length = ls.length * 6
  at_ : ∀ i l, ls[i]? = some l → ∃ A c, w.ownsRow lo 5 1 (.slice A l.hash.length c) l.hash.length (u8s l.hash) ∧ l.size < 18446744073709551616 ∧ ∀ (t : Nat) (u : Value), (cellsL l (.slice A l.hash.length c))[t]? = some u → vs[i * 6 + t]? = some u
theorem LVo.nil (w : World) (lo : Nat) : LVo w lo [] [] := ⟨rfl, fun i l h => by simp at h⟩
theorem LVo.snoc {w : World} {lo c : Nat} {ls : List PLk} {vs : List Value} {l : PLk} {A : Option Addr} (h : LVo w lo ls vs) (h1 : w.ownsRow lo 5 1 (.slice A l.hash.length c) l.hash.length (u8s l.hash)) (h4 : l.size < 18446744073709551616) :
    LVo w lo (ls ++ [l]) (vs ++ cellsL l (.slice A l.hash.length c)) := by
  have hlen := h.len
  refine ⟨by simp [cellsL, hlen]; omega, fun i y hy => ?_⟩
  by_cases hi : i < ls.length
  · rw [List.getElem?_append_left hi] at hy
    obtain ⟨A', c', a1, a4, a5⟩ := h.at_ i y hy
    refine ⟨A', c', a1, a4, fun t u hu => ?_⟩
    have ht : t < 6 := (List.getElem?_eq_some_iff.mp hu).1
    rw [List.getElem?_append_left (by omega)]
    exact a5 t u hu
  · have hlt := (List.getElem?_eq_some_iff.mp hy).1
    simp at hlt
    obtain rfl : i = ls.length := by omega
    rw [List.getElem?_append_right (by omega), Nat.sub_self] at hy
    simp at hy
    subst hy
    refine ⟨A, c, h1, h4, fun t u hu => ?_⟩
    rw [List.getElem?_append_right (by omega), hlen, Nat.add_sub_cancel_left]
    exact hu
theorem LVo.kept {w w' : World} {lo : Nat} {row : Option Nat} {ls : List PLk} {vs : List Value} (h : LVo w lo ls vs) (hg : w.grownBy w' row) (hne : ∀ A n c xs, w.ownsRow lo 5 1 (.slice A n c) n xs → (Value.slice A n c).ownBlock = none ∨ (Value.slice A n c).ownBlock ≠ row) : LVo w' lo ls vs :=
  ⟨h.len, fun i l hl => by
    obtain ⟨A, c, a1, a2, a3⟩ := h.at_ i l hl
    exact ⟨A, c, a1.kept hg (hne _ _ _ _ a1), a2, a3⟩⟩
theorem LVo.below {w w' : World} {lo : Nat} {ls : List PLk} {vs : List Value} (h : LVo w lo ls vs) (hb : Below w.heap.size w w') : LVo w' lo ls vs :=
  ⟨h.len, fun i l hl => by
    obtain ⟨A, c, a1, a2, a3⟩ := h.at_ i l hl
    exact ⟨A, c, own_below a1 hb, a2, a3⟩⟩
theorem LVo.far {w : World} {lo g : Nat} {ls : List PLk} {vs : List Value} (h : LVo w lo ls vs) (hg : g < lo) (i : Nat) (u : Value) : LVo (w.setCell ⟨g, i, none⟩ u) lo ls vs :=
  h.kept (only_set w g i u) fun A n c xs ho => .inr fun e => by have := own_base ho g e; omega
theorem own_shape2 {w : World} {base size n : Nat} {e : TypeId} {v : Value} {xs : List Value} (h : w.ownsRow base e size v n xs) : ∃ A c, v = .slice A n c ∧ n ≤ c ∧ c ≤ maxLen ∧ Reads w w.heap.size size A n xs := by
  rcases h.2 with ⟨rfl, rfl⟩ | ⟨g, cap, cur, rfl, _, _, hnc, hcm, _⟩
  · exact ⟨none, 0, rfl, Nat.le_refl _, by decide, Reads.of_own h⟩
  · exact ⟨_, cap, rfl, hnc, hcm, Reads.of_own h⟩
theorem LVo.links {w : World} {lo n c base : Nat} {A : Option Addr} {ls : List PLk} {vs : List Value} {t : TypeId} (h : LVo w lo ls vs) (hn : ls.length = n) (hm : n ≤ maxLen) (ho : w.ownsRow base t 6 (.slice A n c) n vs) : Links w w.heap.size A n ls := by
  refine ⟨hn, hm, fun h0 => ?_⟩
  obtain ⟨ad, hA, hlt, hc⟩ := (Reads.of_own ho).2 h0
  obtain ⟨g, cap, hv, _, _⟩ := ho.form h0
  have hA2 : A = some ⟨g, 0, none⟩ := by injection hv
  rw [hA2] at hA
  injection hA with hA
  subst hA
  refine ⟨g, 0, hA2, hlt, fun i l hl => ?_⟩
  obtain ⟨A', c', a1, a4, a5⟩ := h.at_ i l hl
  obtain ⟨A'', c'', e, b1, b2, b3⟩ := own_shape2 a1
  injection e with e1 e2 e3
  subst e1 e3
  have hat : ∀ t u, (cellsL l (.slice A' l.hash.length c'))[t]? = some u → w.cell? ⟨g, 0 + i * 6 + t, none⟩ = some u := fun t u hu => by
    have := hc _ u (a5 t u hu)
    rwa [add_plain, ← Nat.add_assoc] at this
  exact ⟨hat 0 _ rfl, hat 1 _ rfl, hat 2 _ rfl, ⟨A', c', hat 3 _ rfl, b1, b2, b3⟩, hat 4 _ rfl, hat 5 _ rfl, a4⟩
end Go.Proofs.YthgbhaackihbjaaDoor
