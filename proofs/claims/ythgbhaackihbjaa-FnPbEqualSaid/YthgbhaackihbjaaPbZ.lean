/- The law's 'loose': a message whose empty bytes are taken as none. -/
import Derived.Test.YthgbhaackihbjaaPbQ
namespace Go.Proofs.Ythgbhaackihbjaa
open Go.RowKit

def looseL (l : PLk) : PLk := ⟨l.hh && decide (0 < l.hash.length), l.hn, l.hs, l.hash, l.name, l.size⟩
def loose (x : PNd) : PNd := ⟨x.has && decide (0 < x.data.length), x.data, x.links.map looseL⟩
theorem infoPk : (Try.prog.info? 34).map (fun i => (i.zero, i.size, i.bytes)) = some (some (.agg #[.bool false, .bool false, .bool false, .slice none 0 0, .string ByteArray.empty, .int .u64 0]), 6, 56) := by kernel_rfl
def cellsL (l : PLk) (v : Value) : List Value := [.bool l.hh, .bool l.hn, .bool l.hs, v, .string l.name, .int .u64 l.size]
/-- The cells of links, one behind the other. -/
structure LV (w : World) (B : Nat) (ls : List PLk) (vs : List Value) : Prop where
  len : vs.length = ls.length * 6
  at_ : ∀ i l, ls[i]? = some l → ∃ A c, l.hash.length ≤ c ∧ c ≤ maxLen ∧ Reads w B 1 A l.hash.length (u8s l.hash) ∧ l.size < 18446744073709551616 ∧ ∀ (t : Nat) (u : Value), (cellsL l (.slice A l.hash.length c))[t]? = some u → vs[i * 6 + t]? = some u
theorem LV.nil (w : World) (B : Nat) : LV w B [] [] := ⟨rfl, fun i l h => by simp at h⟩
theorem LV.snoc {w : World} {B c : Nat} {ls : List PLk} {vs : List Value} {l : PLk} {A : Option Addr} (h : LV w B ls vs) (h1 : l.hash.length ≤ c) (h2 : c ≤ maxLen) (h3 : Reads w B 1 A l.hash.length (u8s l.hash)) (h4 : l.size < 18446744073709551616) :
    LV w B (ls ++ [l]) (vs ++ cellsL l (.slice A l.hash.length c)) := by
  have hlen := h.len
  refine ⟨by simp [cellsL, hlen]; omega, fun i y hy => ?_⟩
  by_cases hi : i < ls.length
  · rw [List.getElem?_append_left hi] at hy
    obtain ⟨A', c', a1, a2, a3, a4, a5⟩ := h.at_ i y hy
    refine ⟨A', c', a1, a2, a3, a4, fun t u hu => ?_⟩
    have ht : t < 6 := (List.getElem?_eq_some_iff.mp hu).1
    rw [List.getElem?_append_left (by omega)]
    exact a5 t u hu
  · have hlt := (List.getElem?_eq_some_iff.mp hy).1
    simp at hlt
    obtain rfl : i = ls.length := by omega
    rw [List.getElem?_append_right (by omega), Nat.sub_self] at hy
    simp at hy
    subst hy
    refine ⟨A, c, h1, h2, h3, h4, fun t u hu => ?_⟩
    rw [List.getElem?_append_right (by omega), hlen, Nat.add_sub_cancel_left]
    exact hu
theorem LV.links {w wf : World} {B n c base : Nat} {A : Option Addr} {ls : List PLk} {vs : List Value} {t : TypeId} (h : LV w B ls vs) (hn : ls.length = n) (hm : n ≤ maxLen) (ho : wf.ownsRow base t 6 (.slice A n c) n vs) (hb : Below w.heap.size w wf) (hB : B ≤ w.heap.size) : Links wf wf.heap.size A n ls := by
  refine ⟨hn, hm, fun h0 => ?_⟩
  obtain ⟨ad, hA, hlt, hc⟩ := (Reads.of_own ho).2 h0
  obtain ⟨g, cap, hv, _, _⟩ := ho.form h0
  have hA2 : A = some ⟨g, 0, none⟩ := by injection hv
  rw [hA2] at hA
  injection hA with hA
  subst hA
  refine ⟨g, 0, hA2, hlt, fun i l hl => ?_⟩
  obtain ⟨A', c', a1, a2, a3, a4, a5⟩ := h.at_ i l hl
  have hat : ∀ t u, (cellsL l (.slice A' l.hash.length c'))[t]? = some u → wf.cell? ⟨g, 0 + i * 6 + t, none⟩ = some u := fun t u hu => by
    have := hc _ u (a5 t u hu)
    rwa [add_plain, ← Nat.add_assoc] at this
  exact ⟨hat 0 _ rfl, hat 1 _ rfl, hat 2 _ rfl, ⟨A', c', hat 3 _ rfl, a1, a2, (a3.below (hb.mono hB)).more (by have := hb.size; omega)⟩, hat 4 _ rfl, hat 5 _ rfl, a4⟩
theorem Reads.regroup {w : World} {B k : Nat} {A : Option Addr} {xs : List Value} (h : Reads w B 1 A k xs) (hk : 0 < k) : Reads w B k A 1 xs := ⟨by have := h.1; omega, fun _ => h.2 hk⟩
/-- The loop of loose: its three blocks, and the row of links made so far. -/
structure LRow (w wr : World) (B : Nat) (b : Bool) (dv lv : Value) (ls : List PLk) (j : Nat) (vs : List Value) : Prop where
  own : wr.ownsRow (w.heap.size + 3) 34 6 lv j vs
  lv_ : LV w B ((ls.take j).map looseL) vs
  res : Blk wr (w.heap.size + 1) 25 #[.bool false, .slice none 0 0, .slice none 0 0]
  out : Blk wr (w.heap.size + 2) 25 #[.bool b, dv, lv]
  below : Below w.heap.size w wr
  size : w.heap.size + 3 ≤ wr.heap.size
theorem LRow.step {w wr w3 : World} {B c j : Nat} {b : Bool} {dv lv v3 : Value} {ls : List PLk} {vs : List Value} {l : PLk} {A : Option Addr} {o1 o2 : Obj} (h : LRow w wr B b dv lv ls j vs) (hl : ls[j]? = some l)
    (h1 : l.hash.length ≤ c) (h2 : c ≤ maxLen) (h3 : Reads w B 1 A l.hash.length (u8s l.hash)) (h4 : l.size < 18446744073709551616)
    (ho : w3.ownsRow (w.heap.size + 3) 34 6 v3 (j + 1) (vs ++ cellsL (looseL l) (.slice A l.hash.length c))) (hg : ((wr.alloc o1).alloc o2).grownBy w3 lv.ownBlock) :
    LRow w (w3.setCell ⟨w.heap.size + 2, 2, none⟩ v3) B b dv v3 ls (j + 1) (vs ++ cellsL (looseL l) (.slice A l.hash.length c)) := by
  have hsz := h.size
  have hgs := hg.size
  have e2 : ((wr.alloc o1).alloc o2).heap.size = wr.heap.size + 2 := by simp
  have hne : ∀ k, lv.ownBlock = some k → w.heap.size + 3 ≤ k := own_base h.own
  have hjl := (List.getElem?_eq_some_iff.mp hl).1
  have hl2 := (List.getElem?_eq_some_iff.mp hl).2
  refine ⟨ownsRow_setCell_below ho (by simp) _, ?_, ?_, ?_, ?_, by simp; omega⟩
  · have := LV.snoc (l := looseL l) (A := A) (c := c) h.lv_ h1 h2 h3 h4
    rw [take_snoc _ _ hjl, List.map_append, hl2]
    exact this
  · refine Blk.far (Blk.grown ((h.res.alloc o1).alloc o2) hg fun e => ?_) (by simp) _
    have := hne _ e.symm
    omega
  · have := (Blk.grown ((h.out.alloc o1).alloc o2) hg fun e => by have := hne _ e.symm; omega).set_ 2 v3
    exact this
  · refine Below.setCell (Below.grown (below_alloc (below_alloc h.below o1) o2) hg ?_ fun k hk => ?_) (by simp) _
    · omega
    · have := hne k hk
      omega
end Go.Proofs.Ythgbhaackihbjaa
