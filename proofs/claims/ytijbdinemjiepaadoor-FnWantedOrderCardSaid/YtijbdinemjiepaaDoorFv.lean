/- Rows of records: each field a plain cell, or a slice of bytes. -/
import Derived.Test.YtijbdinemjiepaaDoorMem
namespace Go.Proofs.YtijbdinemjiepaaDoor
open Go.RowKit

/-- A field of a record. -/
inductive FV where
  | lit (v : Value)
  | bytes (l : List UInt8)
/-- The cell of a field, whose bytes lie outside the blocks G. -/
def FV.In (w : World) (G : Nat → Prop) : FV → Value → Prop
  | .lit u, v => v = u ∧ u.oneCell' = true
  | .bytes l, v => ∃ A c, v = .slice A l.length c ∧ l.length ≤ c ∧ Reads w w.heap.size 1 A l.length (u8s l) ∧ (0 < l.length → ∀ ad, A = some ad → ¬ G ad.block)
/-- No block. -/
def Bare : Nat → Prop := fun _ => False
theorem rlt {w : World} {A : Option Addr} {n : Nat} {xs : List Value} (h : Reads w w.heap.size 1 A n xs) (hn : 0 < n) : ∀ ad, A = some ad → ad.block < w.heap.size := by
  intro ad e
  obtain ⟨a, e2, hb, _⟩ := h.2 hn
  rw [e] at e2
  injection e2 with e2
  subst e2
  exact hb
/-- A world in which one row of G has turned, and other blocks to stay away from: those of G, or new ones. -/
theorem FV.In.turn {w w' : World} {G G' : Nat → Prop} {r : Option Nat} {f : FV} {v : Value} (h : FV.In w G f v) (hg : w.grownBy w' r) (hr : ∀ k, r = some k → G k) (hG : ∀ k, G' k → G k ∨ w.heap.size ≤ k) : FV.In w' G' f v := by
  cases f with
  | lit u => exact h
  | bytes l =>
    obtain ⟨A, c, e, hc, hr1, hn⟩ := h
    refine ⟨A, c, e, hc, ⟨hr1.1, fun h0 => ?_⟩, fun h0 ad ea hg' => ?_⟩
    · obtain ⟨ad, ea, hb, hcell⟩ := hr1.2 h0
      refine ⟨ad, ea, Nat.lt_of_lt_of_le hb hg.size, fun j u hu => (World.cell?_of_block (hg.block _ (by rw [block_of_add]; exact hb) (fun e2 => ?_))).trans (hcell j u hu)⟩
      rw [block_of_add] at e2
      exact hn h0 ad ea (hr _ e2.symm)
    · have := rlt hr1 h0 ad ea
      rcases hG _ hg' with h1 | h1
      · exact hn h0 ad ea h1
      · omega
theorem FV.In.one {w : World} {G : Nat → Prop} {f : FV} {v : Value} (h : FV.In w G f v) : v.oneCell' = true := by
  cases f with
  | lit u => rw [h.1]; exact h.2
  | bytes l =>
    obtain ⟨A, c, e, _⟩ := h
    rw [e]
    rfl
/-- The cells of records, one field behind the other. -/
def FRow (w : World) (G : Nat → Prop) : List FV → List Value → Prop
  | [], xs => xs = []
  | f :: t, xs => ∃ v ys, xs = v :: ys ∧ FV.In w G f v ∧ FRow w G t ys
section
variable {w w' : World} {G G' : Nat → Prop} {r : Option Nat}
theorem FRow.turn (hg : w.grownBy w' r) (hr : ∀ k, r = some k → G k) (hG : ∀ k, G' k → G k ∨ w.heap.size ≤ k) : ∀ {fs : List FV} {xs : List Value}, FRow w G fs xs → FRow w' G' fs xs
  | [], _, h => h
  | _ :: _, _, ⟨v, ys, e, h1, h2⟩ => ⟨v, ys, e, h1.turn hg hr hG, FRow.turn hg hr hG h2⟩
theorem FRow.below (hb : Below w.heap.size w w') {fs : List FV} {xs : List Value} (h : FRow w G fs xs) : FRow w' G fs xs := h.turn (only_of_below hb none) (fun k e => by cases e) (fun k h => .inl h)
theorem FRow.bare {fs : List FV} {xs : List Value} (h : FRow w G fs xs) : FRow w Bare fs xs := h.turn (World.grownBy.refl w none) (fun k e => by cases e) (fun k h => h.elim)
/-- All that is read lies behind the blocks to stay away from. -/
theorem FRow.any {fs : List FV} {xs : List Value} (h : FRow w Bare fs xs) (hG : ∀ k, G k → w.heap.size ≤ k) : FRow w G fs xs := h.turn (World.grownBy.refl w none) (fun k e => by cases e) (fun k h => .inr (hG k h))
theorem FRow.length : ∀ {fs : List FV} {xs : List Value}, FRow w G fs xs → xs.length = fs.length
  | [], xs, h => by
    have h : xs = [] := h
    subst h
    rfl
  | _ :: _, _, ⟨v, ys, e, _, h2⟩ => by rw [e, List.length_cons, FRow.length h2, List.length_cons]
theorem FRow.one : ∀ {fs : List FV} {xs : List Value}, FRow w G fs xs → ∀ u ∈ xs, u.oneCell' = true
  | [], xs, h, u, hu => by
    have h : xs = [] := h
    subst h
    cases hu
  | _ :: _, _, ⟨v, ys, e, h1, h2⟩, u, hu => by
    rw [e] at hu
    rcases List.mem_cons.1 hu with rfl | hu
    · exact h1.one
    · exact FRow.one h2 u hu
theorem FRow.append : ∀ {fs es : List FV} {xs ys : List Value}, FRow w G fs xs → FRow w G es ys → FRow w G (fs ++ es) (xs ++ ys)
  | [], _, xs, _, h, h2 => by
    have h : xs = [] := h
    subst h
    exact h2
  | _ :: _, _, _, _, ⟨v, zs, e, h1, h2⟩, h3 => ⟨v, zs ++ _, by rw [e, List.cons_append], h1, FRow.append h2 h3⟩
theorem FRow.at_ : ∀ {fs : List FV} {xs : List Value} (_ : FRow w G fs xs) (j : Nat) (f : FV), fs[j]? = some f → ∃ v, xs[j]? = some v ∧ FV.In w G f v
  | [], _, _, _, _, h => by simp at h
  | f0 :: t, xs, ⟨v, ys, e, h1, h2⟩, 0, f, h => by
    have hd : f0 = f := by simpa using h
    subst hd
    exact ⟨v, by rw [e]; rfl, h1⟩
  | f0 :: t, xs, ⟨v, ys, e, h1, h2⟩, j + 1, f, h => by
    obtain ⟨u, hu, hi⟩ := FRow.at_ h2 j f (by simpa using h)
    exact ⟨u, by rw [e, List.getElem?_cons_succ]; exact hu, hi⟩
end
/-- A slice value that reads as n records of so many fields each. -/
def RowF (w : World) (size : Nat) (n : Nat) (fs : List FV) (v : Value) : Prop := ∃ A c xs, v = .slice A n c ∧ n ≤ c ∧ Reads w w.heap.size size A n xs ∧ FRow w Bare fs xs
theorem ron {w w' : World} {size n : Nat} {A : Option Addr} {xs : List Value} (h : Reads w w.heap.size size A n xs) (hb : Below w.heap.size w w') : Reads w' w'.heap.size size A n xs := (h.below hb).more hb.size
theorem RowF.below {w w' : World} {size n : Nat} {fs : List FV} {v : Value} (h : RowF w size n fs v) (hb : Below w.heap.size w w') : RowF w' size n fs v := by
  obtain ⟨A, c, xs, h1, h2, h3, h4⟩ := h
  exact ⟨A, c, xs, h1, h2, ron h3 hb, h4.below hb⟩
theorem RowF.of_own {w : World} {base size n : Nat} {e : TypeId} {v : Value} {xs : List Value} {fs : List FV} {G : Nat → Prop} (h : w.ownsRow base e size v n xs) (hf : FRow w G fs xs) : RowF w size n fs v := by
  obtain ⟨A, c, rfl, hc, hr⟩ := own_shape h
  exact ⟨A, c, xs, rfl, hc, hr, hf.bare⟩
/-- The fields of record j, as a later world has them: the cells at the row's own addresses. -/
theorem RowF.cells {w W : World} {size n : Nat} {fs : List FV} {v : Value} (h : RowF w size n fs v) (hs : 0 < size) (hW : Below w.heap.size w W) {j : Nat} (hj : j < n) :
    ∃ b o c, v = .slice (some ⟨b, o, none⟩) n c ∧ n ≤ c ∧ b < w.heap.size ∧ fs.length = n * size ∧ ∀ i, i < size → ∃ f u, fs[j * size + i]? = some f ∧ W.cell? ⟨b, o + j * size + i, none⟩ = some u ∧ FV.In W Bare f u := by
  obtain ⟨A, c, xs, rfl, hc, hr, hf⟩ := h
  have hn : 0 < n := by omega
  obtain ⟨ad, rfl, hb, hcell⟩ := hr.2 hn
  have hl : 0 < xs.length := by rw [hr.1]; exact Nat.mul_pos hn hs
  obtain ⟨b, o, s⟩ := ad
  have h0 := hcell 0 _ (List.getElem?_eq_getElem hl)
  have hsn : s = none := by
    rcases s with _ | s
    · rfl
    · exfalso
      have e1 : (⟨b, o, some s⟩ : Addr).add 0 = ⟨b, o, some s⟩ := by unfold Addr.add; rfl
      rw [e1] at h0
      unfold World.cell? at h0
      split at h0 <;> simp at h0
  subst hsn
  have hfl : fs.length = n * size := by rw [← hf.length]; exact hr.1
  refine ⟨b, o, c, rfl, hc, hb, hfl, fun i hi => ?_⟩
  have hlt : j * size + i < fs.length := by
    rw [hfl]
    have : (j + 1) * size ≤ n * size := Nat.mul_le_mul_right _ (by omega)
    rw [Nat.add_mul] at this
    omega
  obtain ⟨u, hu, hin⟩ := hf.at_ (j * size + i) _ (List.getElem?_eq_getElem hlt)
  refine ⟨_, u, List.getElem?_eq_getElem hlt, ?_, hin.turn (only_of_below hW none) (fun k e => by cases e) (fun k h => .inl h)⟩
  have h2 := hcell _ u hu
  rw [add_plain] at h2
  rw [show o + j * size + i = o + (j * size + i) by omega]
  exact (hW.cell (p := ⟨b, o + (j * size + i), none⟩) hb).trans h2
/-- Rows of different elements share no block. -/
theorem own_apart {w : World} {base1 base2 n1 n2 s1 s2 : Nat} {e1 e2 : TypeId} {v1 v2 : Value} {xs1 xs2 : List Value} (h1 : w.ownsRow base1 e1 s1 v1 n1 xs1) (h2 : w.ownsRow base2 e2 s2 v2 n2 xs2) (hne : e1 ≠ e2) : Apart v1 v2 := by
  intro k hk he
  rcases h1.2 with ⟨rfl, _⟩ | ⟨g, cap, cur, rfl, _, hh, _⟩
  · simp [Value.ownBlock] at hk
  rcases h2.2 with ⟨rfl, _⟩ | ⟨g2, cap2, cur2, rfl, _, hh2, _⟩
  · simp [Value.ownBlock] at he
  simp [Value.ownBlock] at hk he
  subst hk
  subst he
  rw [hh] at hh2
  injection hh2 with hh2
  injection hh2 with _ h3
  exact hne h3
end Go.Proofs.YtijbdinemjiepaaDoor
