/- A slice of steps as a row's argument, opened to its cells; the law FnWantedOrder in the form in which a row hands over its arguments. The first theorem of the section is the guide's block for slices of structs. -/
import Derived.Lib.SmallJoins
import Derived.Deep.Slices
import Derived.Deep.Fields
import Derived.ChangeSame
import Derived.ChangeSlices
import Derived.MakeChecks
import Derived.LaidMore
import Derived.Test.YtijbdinemjiepaaDoorRows
import Derived.Test.YtijbdinemjiepaaDoorSized
import Derived.Test.YtijbdinemjiepaaDoorWoB
namespace Go.Proofs.YtijbdinemjiepaaDoor
open Go.Joins Go.ChangeShapes Go.WideShapes Go.RowKit Go.Deep
section
variable {H : Type} {enc : TypeId × Value → H} {P : Program} {w : World} {base : Nat} {spare : Nat → Bool} {held : Bool}
theorem open_slice_fields {t e : TypeId} {fs : Array Field} {fuel : Nat} {cs : List Value} {x : DataW H × List MemPlace} (ht : P.underlying t = some (.slice e)) (he : P.underlying e = some (.struct fs))
    (hone : oneCellFields P fs = true) (hC : P.cellsOf e = fs.size) (h : DataW.trod enc P w base spare held fuel t cs = some x) :
    (cs = [.slice none 0 0] ∧ x = (.nil, [])) ∨
    ∃ (a : Addr) (len cap m : Nat) (D : Nat → DataW H) (Pl : Nat → List MemPlace), cs = [.slice (some a) len cap] ∧ base ≤ a.block ∧ len ≤ cap ∧ cap ≤ maxLen ∧ m = (if spare a.block then cap else len) ∧
      x = (.slice ((List.range len).map D) ((List.range (m - len)).map fun j => D (len + j)), MemPlace.row a (m * fs.size) ++ (List.range m).flatMap Pl) ∧
      ∀ i, i < m → ∃ (ys : List (DataW H × List MemPlace)) (n : Nat), D i = .agg (ys.map (·.1)) ∧ Pl i = ys.flatMap (·.2) ∧ ys.length = fs.size ∧
        ∀ (j : Nat) (f : Field), fs[j]? = some f → ∃ (v : Value) (y : DataW H × List MemPlace), w.cell? (a.add (i * fs.size + j)) = some v ∧ ys[j]? = some y ∧ DataW.trod enc P w base spare held n f.type [v] = some y := by
  rcases open_slice ht h with h0 | ⟨a, len, cap, m, n, D, Pl, hcs, hb, hl, hm, hmm, hx, hi⟩
  · exact .inl h0
  · refine .inr ⟨a, len, cap, m, D, Pl, hcs, hb, hl, hm, hmm, by rw [hC] at hx; exact hx, fun i him => ?_⟩
    obtain ⟨cs', hc, ht'⟩ := hi i him
    rw [hC] at hc
    obtain ⟨ys, n', hn', hy, hlen, hyl, hf⟩ := DataW.trod_struct he ht'
    obtain ⟨_, hcl, hat⟩ := World.cells?_some hc
    simp only [Prod.mk.injEq] at hy
    refine ⟨ys, n', hy.1, hy.2, hyl, fun j f hj => ?_⟩
    obtain ⟨ho, hk⟩ := hone_of hone j f hj
    have hjl : j < fs.size := (Array.getElem?_eq_some_iff.1 hj).1
    have hcell := hat j hjl
    have hv : cs'[j]? = some (cs'[j]'(by omega)) := List.getElem?_eq_getElem (by omega)
    have h1 := hf j f hj
    rw [ho, hk] at h1
    have hone' : (cs'.drop j).take 1 = [cs'[j]'(by omega)] := by
      rw [List.drop_eq_getElem_cons (by omega)]
      rfl
    rw [hone'] at h1
    have hys : ys[j]? = some (ys[j]'(by omega)) := List.getElem?_eq_getElem (by omega)
    refine ⟨_, _, ?_, hys, h1.trans hys⟩
    rw [← Go.Deep.add_add, hcell, hv]
theorem plain_of_cell {a : Addr} {v : Value} (h : w.cell? a = some v) : a = ⟨a.block, a.off, none⟩ := by
  unfold World.cell? at h
  split at h
  · obtain ⟨b, o, s⟩ := a
    cases s with
    | none => rfl
    | some s => simp at h
  · cases h
/-- Numbers of a byte's range are bytes. -/
theorem bytes_are {zs : List Int} (h : ∀ z ∈ zs, (Lit.int .u8 z).wf = true) : ∃ l : List UInt8, zs.map (fun z => Value.int .u8 z) = u8s l ∧ l.length = zs.length := by
  refine ⟨zs.map fun z => UInt8.ofNat z.toNat, ?_, by simp⟩
  simp only [u8s, List.map_map]
  refine List.map_congr_left fun z hz => ?_
  have hw := h z hz
  simp [Lit.wf, IntKind.min, IntKind.max, IntKind.signed, IntKind.bits] at hw
  have h1 : (UInt8.ofNat z.toNat).toNat = z.toNat := UInt8.toNat_ofNat_of_lt' (by show _ < 256; omega)
  simp only [Function.comp_apply, h1]
  congr 1
  omega
theorem bytes_open {t e : TypeId} {fuel : Nat} {v : Value} {x : DataW H × List MemPlace} (ht : P.underlying t = some (.slice e)) (he : P.underlying e = some (.int .u8)) (hc : P.cellsOf e = 1) (h : DataW.trod enc P w base spare held fuel t [v] = some x) :
    ∃ A n c l, v = .slice A n c ∧ n ≤ c ∧ c ≤ maxLen ∧ l.length = n ∧ Reads w w.heap.size 1 A n (u8s l) := by
  rcases open_ints ht he hc h with ⟨hcs, _⟩ | ⟨a, len, cap, zs, hcs, _, hl, hm, hz, _, hcell, hwz⟩
  · obtain rfl := List.cons.inj hcs |>.1
    exact ⟨none, 0, 0, [], rfl, Nat.le_refl _, by unfold maxLen; omega, rfl, Reads.none_⟩
  · obtain rfl := List.cons.inj hcs |>.1
    have hle : len ≤ zs.length := by rw [hz]; split <;> omega
    obtain ⟨l, hl1, hl2⟩ := bytes_are (zs := zs.take len) fun z hz' => hwz z (List.mem_of_mem_take hz')
    have hl3 : l.length = len := by rw [hl2, List.length_take]; omega
    refine ⟨some a, len, cap, l, rfl, hl, hm, hl3, by rw [u8s_length]; omega, fun hn => ⟨a, rfl, ?_, fun j u hu => ?_⟩⟩
    · have h0 := hcell 0 (by omega)
      have := World.block_lt_of_cell? w _ h0
      rwa [block_of_add] at this
    · rw [← hl1, List.getElem?_map] at hu
      obtain ⟨z, hz1, rfl⟩ := Option.map_eq_some_iff.1 hu
      rw [List.getElem?_take] at hz1
      split at hz1
      · have hj : j < zs.length := (List.getElem?_eq_some_iff.1 hz1).1
        rw [hcell j hj]
        simp [List.getD_eq_getElem?_getD, hz1]
      · cases hz1
theorem list_of {α : Type} {Q : Nat → α → Prop} (n : Nat) (h : ∀ i, i < n → ∃ l, Q i l) : ∃ ls : List α, ls.length = n ∧ ∀ (i : Nat) (l : α), ls[i]? = some l → Q i l := by
  induction n with
  | zero => exact ⟨[], rfl, fun i l h => by simp at h⟩
  | succ n ih =>
    obtain ⟨ls, hl, hq⟩ := ih fun i hi => h i (by omega)
    obtain ⟨y, hy⟩ := h n (by omega)
    refine ⟨ls ++ [y], by simp [hl], fun i l hi => ?_⟩
    by_cases hin : i < n
    · rw [List.getElem?_append_left (by omega)] at hi
      exact hq i l hi
    · have hlt := (List.getElem?_eq_some_iff.mp hi).1
      simp at hlt
      obtain rfl : i = n := by omega
      rw [List.getElem?_append_right (by omega), hl, Nat.sub_self] at hi
      simp at hi
      subst hi
      exact hy
end
/-- A slice of steps, as a row hands it over. -/
structure StepsArg (w : World) (ps : List Stp) (v : Value) : Prop where
  ex : ∃ A n c, v = .slice A n c ∧ ps.length = n ∧ n ≤ 9223372036854775807 ∧ RowF w 4 n (ps.flatMap stpF) (.slice A n c)
  ok : ∀ p ∈ ps, p.kind < 256 ∧ p.cid < 256
/-- A step's cells. -/
structure StepCells (w : World) (a : Addr) (i : Nat) (p : Stp) (zs : List Value) : Prop where
  row : FRow w Bare (stpF p) zs
  at_ : ∀ j u, zs[j]? = some u → w.cell? (a.add (i * 4 + j)) = some u
  ok : p.kind < 256 ∧ p.cid < 256
theorem steps_row {w : World} {a : Addr} : ∀ (ls : List (Stp × List Value)) (k : Nat), (∀ (i : Nat) (x : Stp × List Value), ls[i]? = some x → StepCells w a (k + i) x.1 x.2) →
    FRow w Bare ((ls.map (·.1)).flatMap stpF) (ls.flatMap (·.2)) ∧ (ls.flatMap (·.2)).length = ls.length * 4 ∧ ∀ j u, (ls.flatMap (·.2))[j]? = some u → w.cell? (a.add (k * 4 + j)) = some u
  | [], k, _ => ⟨rfl, by simp, fun j u h => by simp at h⟩
  | x :: t, k, h => by
    have hx := h 0 x rfl
    obtain ⟨h1, h2, h3⟩ := steps_row t (k + 1) (fun i y hy => by
      have := h (i + 1) y (by simpa using hy)
      rwa [show k + (i + 1) = k + 1 + i by omega] at this)
    have hl : x.2.length = 4 := hx.row.length
    refine ⟨?_, ?_, fun j u hj => ?_⟩
    · rw [List.map_cons, List.flatMap_cons, List.flatMap_cons]
      exact hx.row.append h1
    · rw [List.flatMap_cons, List.length_append, h2, hl, List.length_cons]
      omega
    · rw [List.flatMap_cons] at hj
      by_cases hlt : j < 4
      · rw [List.getElem?_append_left (by omega)] at hj
        have := hx.at_ j u hj
        rwa [Nat.add_zero] at this
      · rw [List.getElem?_append_right (by omega), hl] at hj
        have := h3 (j - 4) u hj
        rwa [show (k + 1) * 4 + (j - 4) = k * 4 + j by omega] at this
theorem steps_ok {w : World} {a : Addr} (ls : List (Stp × List Value)) (h : ∀ (i : Nat) (x : Stp × List Value), ls[i]? = some x → StepCells w a i x.1 x.2) : ∀ p ∈ ls.map (·.1), p.kind < 256 ∧ p.cid < 256 := by
  intro p hp
  obtain ⟨x, hx, rfl⟩ := List.mem_map.1 hp
  obtain ⟨i, hi⟩ := List.mem_iff_getElem?.1 hx
  exact (h i x hi).ok
section
variable {H : Type} {enc : TypeId × Value → H} {w : World} {base : Nat} {spare : Nat → Bool} {held : Bool}
set_option maxRecDepth 100000 in
theorem step_open {a : Addr} {i n : Nat} {ys : List (DataW H × List MemPlace)} {fs : Array Field} (hfs : Tryd.prog.underlying 49 = some (.struct fs))
    (h : ∀ (j : Nat) (f : Field), fs[j]? = some f → ∃ (v : Value) (y : DataW H × List MemPlace), w.cell? (a.add (i * fs.size + j)) = some v ∧ ys[j]? = some y ∧ DataW.trod enc Tryd.prog w base spare held n f.type [v] = some y) :
    ∃ x : Stp × List Value, StepCells w a i x.1 x.2 := by
  obtain rfl : _ = fs := by
    have h0 := (Tryd.underlying49).symm.trans hfs
    injection h0 with h0
    injection h0
  obtain ⟨v0, y0, k0, _, t0⟩ := h 0 _ rfl
  obtain ⟨v1, y1, k1, _, t1⟩ := h 1 _ rfl
  obtain ⟨v2, y2, k2, _, t2⟩ := h 2 _ rfl
  obtain ⟨v3, y3, k3, _, t3⟩ := h 3 _ rfl
  obtain ⟨z0, e0, _, w0⟩ := DataW.trod_int Tryd.underlying5 t0
  obtain ⟨z1, e1, _, w1⟩ := DataW.trod_int Tryd.underlying5 t1
  obtain ⟨z2, e2, _, w2⟩ := DataW.trod_int Tryd.underlying21 t2
  obtain ⟨b3, e3, _⟩ := DataW.trod_bool Tryd.underlying4 t3
  obtain rfl := List.cons.inj e0 |>.1
  obtain rfl := List.cons.inj e1 |>.1
  obtain rfl := List.cons.inj e2 |>.1
  obtain rfl := List.cons.inj e3 |>.1
  simp [Lit.wf, IntKind.min, IntKind.max, IntKind.signed, IntKind.bits] at w0 w1
  have c0 : ((z0.toNat : Nat) : Int) = z0 := Int.toNat_of_nonneg (by omega)
  have c1 : ((z1.toNat : Nat) : Int) = z1 := Int.toNat_of_nonneg (by omega)
  refine ⟨(⟨z0.toNat, z1.toNat, z2, b3⟩, [.int .u8 z0, .int .u8 z1, .int .i32 z2, .bool b3]), ⟨?_, ?_, ⟨?_, ?_⟩⟩⟩
  · exact ⟨_, _, rfl, ⟨by show Value.int .u8 z0 = .int .u8 ((z0.toNat : Nat) : Int); rw [c0], rfl⟩, _, _, rfl, ⟨by show Value.int .u8 z1 = .int .u8 ((z1.toNat : Nat) : Int); rw [c1], rfl⟩, _, _, rfl, ⟨rfl, rfl⟩, _, _, rfl, ⟨rfl, rfl⟩, rfl⟩
  · intro j u hu
    have hj : j < 4 := by simpa using (List.getElem?_eq_some_iff.1 hu).1
    have hs : j = 0 ∨ j = 1 ∨ j = 2 ∨ j = 3 := by omega
    rcases hs with rfl | rfl | rfl | rfl <;> (simp at hu; subst hu; assumption)
  · show z0.toNat < 256
    omega
  · show z1.toNat < 256
    omega
set_option maxRecDepth 100000 in
theorem steps_open {r : Reach} {b0 : Nat} {v : Value} {d : DataW H} {p : List MemPlace} (hv : Value.okWide Tryd.prog w r b0 45 v) (h : DataW.Trod enc Tryd.prog w base spare held 45 v d p) : ∃ ps, StepsArg w ps v := by
  obtain ⟨a, len, cap, rfl⟩ := okWide_slice Tryd.underlying45 hv
  obtain ⟨fuel, hf⟩ := h
  rcases open_slice_fields Tryd.underlying45 Tryd.underlying49 (by kernel_rfl) (by kernel_rfl) hf with ⟨hcs, _⟩ | ⟨a, len, cap, m2, D, Pl, hcs, _, hl, hm, hm2, _, hi⟩
  · simp [Value.cells] at hcs
    obtain ⟨rfl, rfl, rfl⟩ := hcs
    exact ⟨[], ⟨none, 0, 0, rfl, rfl, by omega, none, 0, [], rfl, Nat.le_refl _, ⟨by simp, fun h => absurd h (by omega)⟩, rfl⟩, by simp⟩
  · simp [Value.cells] at hcs
    obtain ⟨rfl, rfl, rfl⟩ := hcs
    have hle : len ≤ m2 := by rw [hm2]; split <;> omega
    obtain ⟨ls, hln, hq⟩ := list_of (Q := fun i x => StepCells w a i (x : Stp × List Value).1 x.2) len fun i hilt => by
      obtain ⟨ys, n', _, _, _, hf⟩ := hi i (by omega)
      exact step_open Tryd.underlying49 hf
    obtain ⟨h1, h2, h3⟩ := steps_row ls 0 (fun i x hx => by rw [Nat.zero_add]; exact hq i x hx)
    refine ⟨ls.map (·.1), ⟨some a, len, cap, rfl, by rw [List.length_map]; exact hln, by unfold maxLen at hm; omega, some a, cap, _, rfl, hl, ⟨by rw [h2, hln], fun h0 => ⟨a, rfl, ?_, fun j u hu => ?_⟩⟩, h1⟩, steps_ok ls hq⟩
    · have hx := (hq 0 ls[0] (List.getElem?_eq_getElem (by omega))).at_ 0
      have hl8 := (hq 0 ls[0] (List.getElem?_eq_getElem (by omega))).row.length
      have hc := hx _ (List.getElem?_eq_getElem (by rw [hl8]; exact (by decide : 0 < 4)))
      have := World.block_lt_of_cell? w _ hc
      rwa [block_of_add] at this
    · have := h3 j u hu
      rwa [Nat.zero_mul, Nat.zero_add] at this
end
set_option maxRecDepth 100000 in
theorem order_row (p1 : List Stp) (v1 : Value) (p2 : List Stp) (v2 : Value) (W : World) (h1 : StepsArg W p1 v1) (h2 : StepsArg W p2 v2) (_ : laidMetH Tryd.prog Rows.fnWantedOrderRow.laid W) :
    Calls Tryd.prog 5 #[v1, v2] W fun e W' => e = .returned (.bool true) ∧ Below W.heap.size W W' := by
  obtain ⟨A1, n1, c1, rfl, hn1, hm1, hr1⟩ := h1.ex
  obtain ⟨A2, n2, c2, rfl, hn2, hm2, hr2⟩ := h2.ex
  exact (order_any A1 A2 n1 n2 c1 c2 p1 p2 W hr1 hr2 hn1 hn2 hm1 hm2 h1.ok h2.ok).mono fun e W' h => ⟨h.ret, h.below⟩
end Go.Proofs.YtijbdinemjiepaaDoor
