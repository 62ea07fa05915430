/- A row of changes in memory. -/
import Derived.Test.YtijbdinemjiepaaDoorDfD
namespace Go.Proofs.YtijbdinemjiepaaDoor
open Go.RowKit

/-- The cells of a change, whose identifiers lie outside block g. -/
def DIn (w : World) (g : Option Nat) (d : Dif) (v : List Value) : Prop := ∃ A1 c1 A2 c2, v = [.int .i64 (d.ty : Nat), .string d.path, .slice A1 (identB d.bef).length c1, .slice A2 (identB d.aft).length c2] ∧ ((identB d.bef).length ≤ c1 ∧ (identB d.aft).length ≤ c2) ∧ (Reads w w.heap.size 1 A1 (identB d.bef).length (u8s (identB d.bef)) ∧ Reads w w.heap.size 1 A2 (identB d.aft).length (u8s (identB d.aft))) ∧ (∀ ad, A1 = some ad → some ad.block ≠ g) ∧ (∀ ad, A2 = some ad → some ad.block ≠ g)
theorem reads_lt {w : World} {A : Option Addr} {n : Nat} {xs : List Value} (h : Reads w w.heap.size 1 A n xs) (hn : 0 < n) : ∀ ad, A = some ad → ad.block < w.heap.size := by
  intro ad e
  obtain ⟨a, e2, hb, _⟩ := h.2 hn
  rw [e] at e2
  injection e2 with e2
  subst e2
  exact hb
theorem reads_grown {w w' : World} {A : Option Addr} {n : Nat} {xs : List Value} {g : Option Nat} (h : Reads w w.heap.size 1 A n xs) (hg : w.grownBy w' g) (hA : ∀ ad, A = some ad → some ad.block ≠ g) : Reads w' w'.heap.size 1 A n xs :=
  ⟨h.1, fun hn => by
    obtain ⟨ad, e, hb, hc⟩ := h.2 hn
    exact ⟨ad, e, Nat.lt_of_lt_of_le hb hg.size, fun j u hu => (World.cell?_of_block (hg.block _ (by rw [block_of_add]; exact hb) (by rw [block_of_add]; exact hA ad e))).trans (hc j u hu)⟩⟩
theorem DIn.grown {w w' : World} {g : Option Nat} {d : Dif} {v : List Value} (h : DIn w g d v) (hg : w.grownBy w' g) : DIn w' g d v := by
  obtain ⟨A1, c1, A2, c2, e, hc, ⟨r1, r2⟩, n1, n2⟩ := h
  exact ⟨A1, c1, A2, c2, e, hc, ⟨reads_grown r1 hg n1, reads_grown r2 hg n2⟩, n1, n2⟩
theorem DIn.below {w w' : World} {g : Option Nat} {d : Dif} {v : List Value} (h : DIn w g d v) (hb : Below w.heap.size w w') : DIn w' g d v := h.grown (only_of_below hb g)
theorem DIn.fresh {w : World} {g : Option Nat} {d : Dif} {v : List Value} (h : DIn w g d v) (k : Nat) (hk : w.heap.size ≤ k) : DIn w (some k) d v := by
  obtain ⟨A1, c1, A2, c2, e, hc, ⟨r1, r2⟩, _, _⟩ := h
  have l1 := (identB_length d.bef).2
  have l2 := (identB_length d.aft).2
  exact ⟨A1, c1, A2, c2, e, hc, ⟨r1, r2⟩, fun ad ea e2 => by injection e2 with e2; have := reads_lt r1 (by omega) ad ea; omega, fun ad ea e2 => by injection e2 with e2; have := reads_lt r2 (by omega) ad ea; omega⟩
/-- So many changes, one behind the other. -/
def DRow (w : World) (g : Option Nat) : List Dif → List Value → Prop
  | [], xs => xs = []
  | d :: t, xs => ∃ v ys, xs = v ++ ys ∧ DIn w g d v ∧ DRow w g t ys
theorem DRow.grown {w w' : World} {g : Option Nat} (hg : w.grownBy w' g) : ∀ {ds : List Dif} {xs : List Value}, DRow w g ds xs → DRow w' g ds xs
  | [], _, h => h
  | _ :: _, _, ⟨v, ys, e, h1, h2⟩ => ⟨v, ys, e, h1.grown hg, DRow.grown hg h2⟩
theorem DRow.below {w w' : World} {g : Option Nat} (hb : Below w.heap.size w w') {ds : List Dif} {xs : List Value} (h : DRow w g ds xs) : DRow w' g ds xs := h.grown (only_of_below hb g)
theorem DRow.fresh {w : World} {g : Option Nat} (k : Nat) (hk : w.heap.size ≤ k) : ∀ {ds : List Dif} {xs : List Value}, DRow w g ds xs → DRow w (some k) ds xs
  | [], _, h => h
  | _ :: _, _, ⟨v, ys, e, h1, h2⟩ => ⟨v, ys, e, h1.fresh k hk, DRow.fresh k hk h2⟩
theorem DRow.snoc {w : World} {g : Option Nat} {d : Dif} {v : List Value} (hv : DIn w g d v) : ∀ {ds : List Dif} {xs : List Value}, DRow w g ds xs → DRow w g (ds ++ [d]) (xs ++ v)
  | [], xs, h => by
    have h : xs = [] := h
    subst h
    exact ⟨v, [], by simp, hv, rfl⟩
  | _ :: _, _, ⟨u, ys, e, h1, h2⟩ => ⟨u, ys ++ v, by rw [e, List.append_assoc], h1, DRow.snoc hv h2⟩
theorem DIn.length {w : World} {g : Option Nat} {d : Dif} {v : List Value} (h : DIn w g d v) : v.length = 4 := by
  obtain ⟨_, _, _, _, e, _⟩ := h
  rw [e]
  rfl
theorem DRow.length {w : World} {g : Option Nat} : ∀ {ds : List Dif} {xs : List Value}, DRow w g ds xs → xs.length = ds.length * 4
  | [], xs, h => by
    have h : xs = [] := h
    subst h
    rfl
  | _ :: _, _, ⟨v, ys, e, h1, h2⟩ => by rw [e, List.length_append, h1.length, DRow.length h2, List.length_cons]; omega
theorem DVal.inn {w : World} {lo : Nat} {d : Dif} {v : List Value} (h : DVal w lo d v) {g : Option Nat} (hg : ∀ k, g = some k → k < lo) : DIn w g d v := by
  obtain ⟨A1, c1, A2, c2, e, hc, hr, n1, n2⟩ := h
  exact ⟨A1, c1, A2, c2, e, hc, hr, fun ad ea e2 => by have := n1 ad ea; have := hg _ e2.symm; omega, fun ad ea e2 => by have := n2 ad ea; have := hg _ e2.symm; omega⟩
def u16s (l : List Nat) : List Value := l.map fun z => .int .u16 (z : Nat)
theorem u16s_length (l : List Nat) : (u16s l).length = l.length := by simp [u16s]
theorem u16s_at (l : List Nat) (j : Nat) (h : j < l.length) : (u16s l)[j]? = some (.int .u16 (l[j] : Nat)) := by simp [u16s, List.getElem?_eq_getElem h]
theorem infoDiff : (Tryd.prog.info? 32).map (fun i => (i.zero, i.size, i.bytes)) = some (some (.agg #[.int .i64 0, .string ByteArray.empty, .slice none 0 0, .slice none 0 0]), 4, 72) := by kernel_rfl
end Go.Proofs.YtijbdinemjiepaaDoor
