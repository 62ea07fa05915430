/- A message as a row's argument: a struct by value of a bool, bytes and links, opened to its cells. The first theorem of the section is the guide's block for slices of structs. -/
import Derived.Lib.SmallJoins
import Derived.Deep.Slices
import Derived.Deep.Fields
import Derived.ChangeSame
import Derived.ChangeSlices
import Derived.Test.YthgbhaackihbjaaDoorPbH
namespace Go.Proofs.YthgbhaackihbjaaDoor
open Go.Joins Go.ChangeShapes Go.WideShapes Go.RowKit Go.Deep
section
variable {H : Type} {enc : TypeId × Value → H} {P : Program} {w : World} {base : Nat} {spare : Nat → Bool} {held : Bool}
theorem open_slice_fields {t e : TypeId} {fs : Array Field} {fuel : Nat} {cs : List Value} {x : DataW H × List MemPlace} (ht : P.underlying t = some (.slice e)) (he : P.underlying e = some (.struct fs))
    (hone : oneCellFields P fs = true) (hC : P.cellsOf e = fs.size) (h : DataW.trod enc P w base spare held fuel t cs = some x) :
    (cs = [.slice none 0 0] ∧ x = (.nil, [])) ∨
    ∃ (a : Addr) (len cap m : Nat) (D : Nat → DataW H) (Pl : Nat → List MemPlace), cs = [.slice (some a) len cap] ∧ base ≤ a.block ∧ len ≤ cap ∧ cap ≤ maxLen ∧ m = (if spare a.block then cap else len) ∧
      x = (.slice ((List.range len).map D) ((List.range (m - len)).map fun j => D (len + j)), MemPlace.row a (m * fs.size) ++ (List.range m).flatMap Pl) ∧
      ∀ i, i < m → ∃ (ys : List (DataW H × List MemPlace)) (n : Nat), D i = .agg (ys.map (·.1)) ∧ Pl i = ys.flatMap (·.2) ∧ ys.length = fs.size ∧
        ∀ (j : Nat) (f : Field), fs[j]? = some f → ∃ (v : Value) (y : DataW H × List MemPlace), w.cell? (a.add (i * fs.size + j)) = some v ∧ ys[j]? = some y ∧ DataW.trod enc P w base spare held n f.type [v] = some y := by
  rcases open_slice ht h with h0 | ⟨a, len, cap, m, n, D, Pl, hcs, hb, hl, hm, hmm, hx, hi⟩
  · exact .inl h0
  · refine .inr ⟨a, len, cap, m, D, Pl, hcs, hb, hl, hm, hmm, by rw [hC] at hx; exact hx, fun i him => ?_⟩
    obtain ⟨cs', hc, ht'⟩ := hi i him
    rw [hC] at hc
    obtain ⟨ys, n', hn', hy, hlen, hyl, hf⟩ := DataW.trod_struct he ht'
    obtain ⟨_, hcl, hat⟩ := World.cells?_some hc
    simp only [Prod.mk.injEq] at hy
    refine ⟨ys, n', hy.1, hy.2, hyl, fun j f hj => ?_⟩
    obtain ⟨ho, hk⟩ := hone_of hone j f hj
    have hjl : j < fs.size := (Array.getElem?_eq_some_iff.1 hj).1
    have hcell := hat j hjl
    have hv : cs'[j]? = some (cs'[j]'(by omega)) := List.getElem?_eq_getElem (by omega)
    have h1 := hf j f hj
    rw [ho, hk] at h1
    have hone' : (cs'.drop j).take 1 = [cs'[j]'(by omega)] := by
      rw [List.drop_eq_getElem_cons (by omega)]
      rfl
    rw [hone'] at h1
    have hys : ys[j]? = some (ys[j]'(by omega)) := List.getElem?_eq_getElem (by omega)
    refine ⟨_, _, ?_, hys, h1.trans hys⟩
    rw [← Go.Deep.add_add, hcell, hv]
theorem plain_of_cell {a : Addr} {v : Value} (h : w.cell? a = some v) : a = ⟨a.block, a.off, none⟩ := by
  unfold World.cell? at h
  split at h
  · obtain ⟨b, o, s⟩ := a
    cases s with
    | none => rfl
    | some s => simp at h
  · cases h
/-- Numbers of a byte's range are bytes. -/
theorem bytes_are {zs : List Int} (h : ∀ z ∈ zs, (Lit.int .u8 z).wf = true) : ∃ l : List UInt8, zs.map (fun z => Value.int .u8 z) = u8s l ∧ l.length = zs.length := by
  refine ⟨zs.map fun z => UInt8.ofNat z.toNat, ?_, by simp⟩
  simp only [u8s, List.map_map]
  refine List.map_congr_left fun z hz => ?_
  have hw := h z hz
  simp [Lit.wf, IntKind.min, IntKind.max, IntKind.signed, IntKind.bits] at hw
  have h1 : (UInt8.ofNat z.toNat).toNat = z.toNat := UInt8.toNat_ofNat_of_lt' (by show _ < 256; omega)
  simp only [Function.comp_apply, h1]
  congr 1
  omega
theorem bytes_open {t e : TypeId} {fuel : Nat} {v : Value} {x : DataW H × List MemPlace} (ht : P.underlying t = some (.slice e)) (he : P.underlying e = some (.int .u8)) (hc : P.cellsOf e = 1) (h : DataW.trod enc P w base spare held fuel t [v] = some x) :
    ∃ A n c l, v = .slice A n c ∧ n ≤ c ∧ c ≤ maxLen ∧ l.length = n ∧ Reads w w.heap.size 1 A n (u8s l) := by
  rcases open_ints ht he hc h with ⟨hcs, _⟩ | ⟨a, len, cap, zs, hcs, _, hl, hm, hz, _, hcell, hwz⟩
  · obtain rfl := List.cons.inj hcs |>.1
    exact ⟨none, 0, 0, [], rfl, Nat.le_refl _, by unfold maxLen; omega, rfl, Reads.none_⟩
  · obtain rfl := List.cons.inj hcs |>.1
    have hle : len ≤ zs.length := by rw [hz]; split <;> omega
    obtain ⟨l, hl1, hl2⟩ := bytes_are (zs := zs.take len) fun z hz' => hwz z (List.mem_of_mem_take hz')
    have hl3 : l.length = len := by rw [hl2, List.length_take]; omega
    refine ⟨some a, len, cap, l, rfl, hl, hm, hl3, by rw [u8s_length]; omega, fun hn => ⟨a, rfl, ?_, fun j u hu => ?_⟩⟩
    · have h0 := hcell 0 (by omega)
      have := World.block_lt_of_cell? w _ h0
      rwa [block_of_add] at this
    · rw [← hl1, List.getElem?_map] at hu
      obtain ⟨z, hz1, rfl⟩ := Option.map_eq_some_iff.1 hu
      rw [List.getElem?_take] at hz1
      split at hz1
      · have hj : j < zs.length := (List.getElem?_eq_some_iff.1 hz1).1
        rw [hcell j hj]
        simp [List.getD_eq_getElem?_getD, hz1]
      · cases hz1
theorem list_of {α : Type} {Q : Nat → α → Prop} (n : Nat) (h : ∀ i, i < n → ∃ l, Q i l) : ∃ ls : List α, ls.length = n ∧ ∀ (i : Nat) (l : α), ls[i]? = some l → Q i l := by
  induction n with
  | zero => exact ⟨[], rfl, fun i l h => by simp at h⟩
  | succ n ih =>
    obtain ⟨ls, hl, hq⟩ := ih fun i hi => h i (by omega)
    obtain ⟨y, hy⟩ := h n (by omega)
    refine ⟨ls ++ [y], by simp [hl], fun i l hi => ?_⟩
    by_cases hin : i < n
    · rw [List.getElem?_append_left (by omega)] at hi
      exact hq i l hi
    · have hlt := (List.getElem?_eq_some_iff.mp hi).1
      simp at hlt
      obtain rfl : i = n := by omega
      rw [List.getElem?_append_right (by omega), hl, Nat.sub_self] at hi
      simp at hi
      subst hi
      exact hy
end
section
variable {H : Type} {enc : TypeId × Value → H} {w : World} {base : Nat} {spare : Nat → Bool} {held : Bool}
theorem link_open {a : Addr} {i n : Nat} {ys : List (DataW H × List MemPlace)} {fs : Array Field} (hfs : Tryd.prog.underlying 53 = some (.struct fs)) (ha : a = ⟨a.block, a.off, none⟩)
    (h : ∀ (j : Nat) (f : Field), fs[j]? = some f → ∃ (v : Value) (y : DataW H × List MemPlace), w.cell? (a.add (i * fs.size + j)) = some v ∧ ys[j]? = some y ∧ DataW.trod enc Tryd.prog w base spare held n f.type [v] = some y) :
    ∃ l, LinkCells w w.heap.size l a.block (a.off + i * 6) := by
  obtain rfl : _ = fs := by
    have h0 := (Tryd.underlying53).symm.trans hfs
    injection h0 with h0
    injection h0
  have hat : ∀ j, a.add (i * 6 + j) = ⟨a.block, a.off + i * 6 + j, none⟩ := fun j => by
    rw [ha, add_plain, Nat.add_assoc]
  obtain ⟨v0, y0, k0, _, t0⟩ := h 0 _ rfl
  obtain ⟨v1, y1, k1, _, t1⟩ := h 1 _ rfl
  obtain ⟨v2, y2, k2, _, t2⟩ := h 2 _ rfl
  obtain ⟨v3, y3, k3, _, t3⟩ := h 3 _ rfl
  obtain ⟨v4, y4, k4, _, t4⟩ := h 4 _ rfl
  obtain ⟨v5, y5, k5, _, t5⟩ := h 5 _ rfl
  obtain ⟨b0, e0, _⟩ := DataW.trod_bool Tryd.underlying4 t0
  obtain ⟨b1, e1, _⟩ := DataW.trod_bool Tryd.underlying4 t1
  obtain ⟨b2, e2, _⟩ := DataW.trod_bool Tryd.underlying4 t2
  obtain ⟨A3, n3, c3, l3, rfl, h31, h32, h33, h34⟩ := bytes_open Tryd.underlying22 Tryd.underlying5 (by kernel_rfl) t3
  obtain ⟨s4, e4, _, _⟩ := DataW.trod_string Tryd.underlying9 t4
  obtain ⟨z5, e5, _, hwf⟩ := DataW.trod_int Tryd.underlying24 t5
  obtain rfl := List.cons.inj e0 |>.1
  obtain rfl := List.cons.inj e1 |>.1
  obtain rfl := List.cons.inj e2 |>.1
  obtain rfl := List.cons.inj e4 |>.1
  obtain rfl := List.cons.inj e5 |>.1
  simp [Lit.wf, IntKind.min, IntKind.max, IntKind.signed, IntKind.bits] at hwf
  subst h33
  refine ⟨⟨b0, b1, b2, l3, s4, z5.toNat⟩, (congrArg _ (hat 0)).symm.trans k0, (congrArg _ (hat 1)).symm.trans k1, (congrArg _ (hat 2)).symm.trans k2, ⟨A3, c3, (congrArg _ (hat 3)).symm.trans k3, h31, h32, h34⟩, (congrArg _ (hat 4)).symm.trans k4, ?_, ?_⟩
  · rw [Int.toNat_of_nonneg (by omega)]
    exact (congrArg _ (hat 5)).symm.trans k5
  · show z5.toNat < _
    omega
theorem node_open {r : Reach} {b0 : Nat} {v : Value} {d : DataW H} {p : List MemPlace} (hv : Value.okWide Tryd.prog w r b0 28 v) (h : DataW.Trod enc Tryd.prog w base spare held 28 v d p) : ∃ x, NodeArg w w.heap.size x v := by
  obtain ⟨v0, v1, v2, y0, y1, y2, n, rfl, _, _, t0, t1, t2⟩ := open_agg3 Tryd.underlying28 (by kernel_rfl) (by kernel_rfl) hv h
  obtain ⟨has, e0, _⟩ := DataW.trod_bool Tryd.underlying4 t0
  obtain rfl := List.cons.inj e0 |>.1
  obtain ⟨A, m, c, l, rfl, h1, h2, h3, h4⟩ := bytes_open Tryd.underlying22 Tryd.underlying5 (by kernel_rfl) t1
  rcases open_slice_fields Tryd.underlying26 Tryd.underlying53 (by kernel_rfl) (by kernel_rfl) t2 with ⟨hcs, _⟩ | ⟨a, len, cap, m2, D, Pl, hcs, _, hl, hm, hm2, _, hi⟩
  · obtain rfl := List.cons.inj hcs |>.1
    exact ⟨⟨has, l, []⟩, A, m, c, none, 0, 0, rfl, h1, h2, h4, Nat.le_refl _, rfl, Nat.zero_le _, fun h => absurd h (by omega)⟩
  · obtain rfl := List.cons.inj hcs |>.1
    have hle : len ≤ m2 := by rw [hm2]; split <;> omega
    have hcell : 0 < len → ∃ v, w.cell? a = some v := fun h0 => by
      obtain ⟨ys, n', _, _, _, hf⟩ := hi 0 (by omega)
      obtain ⟨v, y, hc, _⟩ := hf 0 _ rfl
      exact ⟨v, by simpa [Addr.add] using hc⟩
    obtain ⟨ls, hln, hq⟩ := list_of (Q := fun i l => LinkCells w w.heap.size l a.block (a.off + i * 6)) len fun i hilt => by
      obtain ⟨v, hv0⟩ := hcell (by omega)
      obtain ⟨ys, n', _, _, _, hf⟩ := hi i (by omega)
      exact link_open Tryd.underlying53 (plain_of_cell hv0) hf
    refine ⟨⟨has, l, ls⟩, A, m, c, some a, len, cap, rfl, h1, h2, h4, hl, hln, by omega, fun h0 => ?_⟩
    obtain ⟨v, hv0⟩ := hcell h0
    exact ⟨a.block, a.off, congrArg some (plain_of_cell hv0), World.block_lt_of_cell? w _ hv0, hq⟩
end
end Go.Proofs.YthgbhaackihbjaaDoor
