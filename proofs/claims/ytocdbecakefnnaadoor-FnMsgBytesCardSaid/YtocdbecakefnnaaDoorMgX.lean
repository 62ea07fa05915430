/- A slice of parts as a row's argument, opened to its cells; the law FnMsgBytes in the form in which a row hands over its arguments. The first theorem of the section is the guide's block for slices of structs. -/
import Derived.Lib.SmallJoins
import Derived.Deep.Slices
import Derived.Deep.Fields
import Derived.ChangeSame
import Derived.ChangeSlices
import Derived.MakeChecks
import Derived.LaidMore
import Derived.Test.YtocdbecakefnnaaDoorRows
import Derived.Test.YtocdbecakefnnaaDoorSized
import Derived.Test.YtocdbecakefnnaaDoorMgO
namespace Go.Proofs.YtocdbecakefnnaaDoor
open Go.Joins Go.ChangeShapes Go.WideShapes Go.RowKit Go.Deep
section
variable {H : Type} {enc : TypeId × Value → H} {P : Program} {w : World} {base : Nat} {spare : Nat → Bool} {held : Bool}
theorem open_slice_fields {t e : TypeId} {fs : Array Field} {fuel : Nat} {cs : List Value} {x : DataW H × List MemPlace} (ht : P.underlying t = some (.slice e)) (he : P.underlying e = some (.struct fs))
    (hone : oneCellFields P fs = true) (hC : P.cellsOf e = fs.size) (h : DataW.trod enc P w base spare held fuel t cs = some x) :
    (cs = [.slice none 0 0] ∧ x = (.nil, [])) ∨
    ∃ (a : Addr) (len cap m : Nat) (D : Nat → DataW H) (Pl : Nat → List MemPlace), cs = [.slice (some a) len cap] ∧ base ≤ a.block ∧ len ≤ cap ∧ cap ≤ maxLen ∧ m = (if spare a.block then cap else len) ∧
      x = (.slice ((List.range len).map D) ((List.range (m - len)).map fun j => D (len + j)), MemPlace.row a (m * fs.size) ++ (List.range m).flatMap Pl) ∧
      ∀ i, i < m → ∃ (ys : List (DataW H × List MemPlace)) (n : Nat), D i = .agg (ys.map (·.1)) ∧ Pl i = ys.flatMap (·.2) ∧ ys.length = fs.size ∧
        ∀ (j : Nat) (f : Field), fs[j]? = some f → ∃ (v : Value) (y : DataW H × List MemPlace), w.cell? (a.add (i * fs.size + j)) = some v ∧ ys[j]? = some y ∧ DataW.trod enc P w base spare held n f.type [v] = some y := by
  rcases open_slice ht h with h0 | ⟨a, len, cap, m, n, D, Pl, hcs, hb, hl, hm, hmm, hx, hi⟩
  · exact .inl h0
  · refine .inr ⟨a, len, cap, m, D, Pl, hcs, hb, hl, hm, hmm, by rw [hC] at hx; exact hx, fun i him => ?_⟩
    obtain ⟨cs', hc, ht'⟩ := hi i him
    rw [hC] at hc
    obtain ⟨ys, n', hn', hy, hlen, hyl, hf⟩ := DataW.trod_struct he ht'
    obtain ⟨_, hcl, hat⟩ := World.cells?_some hc
    simp only [Prod.mk.injEq] at hy
    refine ⟨ys, n', hy.1, hy.2, hyl, fun j f hj => ?_⟩
    obtain ⟨ho, hk⟩ := hone_of hone j f hj
    have hjl : j < fs.size := (Array.getElem?_eq_some_iff.1 hj).1
    have hcell := hat j hjl
    have hv : cs'[j]? = some (cs'[j]'(by omega)) := List.getElem?_eq_getElem (by omega)
    have h1 := hf j f hj
    rw [ho, hk] at h1
    have hone' : (cs'.drop j).take 1 = [cs'[j]'(by omega)] := by
      rw [List.drop_eq_getElem_cons (by omega)]
      rfl
    rw [hone'] at h1
    have hys : ys[j]? = some (ys[j]'(by omega)) := List.getElem?_eq_getElem (by omega)
    refine ⟨_, _, ?_, hys, h1.trans hys⟩
    rw [← Go.Deep.add_add, hcell, hv]
theorem plain_of_cell {a : Addr} {v : Value} (h : w.cell? a = some v) : a = ⟨a.block, a.off, none⟩ := by
  unfold World.cell? at h
  split at h
  · obtain ⟨b, o, s⟩ := a
    cases s with
    | none => rfl
    | some s => simp at h
  · cases h
/-- Numbers of a byte's range are bytes. -/
theorem bytes_are {zs : List Int} (h : ∀ z ∈ zs, (Lit.int .u8 z).wf = true) : ∃ l : List UInt8, zs.map (fun z => Value.int .u8 z) = u8s l ∧ l.length = zs.length := by
  refine ⟨zs.map fun z => UInt8.ofNat z.toNat, ?_, by simp⟩
  simp only [u8s, List.map_map]
  refine List.map_congr_left fun z hz => ?_
  have hw := h z hz
  simp [Lit.wf, IntKind.min, IntKind.max, IntKind.signed, IntKind.bits] at hw
  have h1 : (UInt8.ofNat z.toNat).toNat = z.toNat := UInt8.toNat_ofNat_of_lt' (by show _ < 256; omega)
  simp only [Function.comp_apply, h1]
  congr 1
  omega
theorem bytes_open {t e : TypeId} {fuel : Nat} {v : Value} {x : DataW H × List MemPlace} (ht : P.underlying t = some (.slice e)) (he : P.underlying e = some (.int .u8)) (hc : P.cellsOf e = 1) (h : DataW.trod enc P w base spare held fuel t [v] = some x) :
    ∃ A n c l, v = .slice A n c ∧ n ≤ c ∧ c ≤ maxLen ∧ l.length = n ∧ Reads w w.heap.size 1 A n (u8s l) := by
  rcases open_ints ht he hc h with ⟨hcs, _⟩ | ⟨a, len, cap, zs, hcs, _, hl, hm, hz, _, hcell, hwz⟩
  · obtain rfl := List.cons.inj hcs |>.1
    exact ⟨none, 0, 0, [], rfl, Nat.le_refl _, by unfold maxLen; omega, rfl, Reads.none_⟩
  · obtain rfl := List.cons.inj hcs |>.1
    have hle : len ≤ zs.length := by rw [hz]; split <;> omega
    obtain ⟨l, hl1, hl2⟩ := bytes_are (zs := zs.take len) fun z hz' => hwz z (List.mem_of_mem_take hz')
    have hl3 : l.length = len := by rw [hl2, List.length_take]; omega
    refine ⟨some a, len, cap, l, rfl, hl, hm, hl3, by rw [u8s_length]; omega, fun hn => ⟨a, rfl, ?_, fun j u hu => ?_⟩⟩
    · have h0 := hcell 0 (by omega)
      have := World.block_lt_of_cell? w _ h0
      rwa [block_of_add] at this
    · rw [← hl1, List.getElem?_map] at hu
      obtain ⟨z, hz1, rfl⟩ := Option.map_eq_some_iff.1 hu
      rw [List.getElem?_take] at hz1
      split at hz1
      · have hj : j < zs.length := (List.getElem?_eq_some_iff.1 hz1).1
        rw [hcell j hj]
        simp [List.getD_eq_getElem?_getD, hz1]
      · cases hz1
theorem list_of {α : Type} {Q : Nat → α → Prop} (n : Nat) (h : ∀ i, i < n → ∃ l, Q i l) : ∃ ls : List α, ls.length = n ∧ ∀ (i : Nat) (l : α), ls[i]? = some l → Q i l := by
  induction n with
  | zero => exact ⟨[], rfl, fun i l h => by simp at h⟩
  | succ n ih =>
    obtain ⟨ls, hl, hq⟩ := ih fun i hi => h i (by omega)
    obtain ⟨y, hy⟩ := h n (by omega)
    refine ⟨ls ++ [y], by simp [hl], fun i l hi => ?_⟩
    by_cases hin : i < n
    · rw [List.getElem?_append_left (by omega)] at hi
      exact hq i l hi
    · have hlt := (List.getElem?_eq_some_iff.mp hi).1
      simp at hlt
      obtain rfl : i = n := by omega
      rw [List.getElem?_append_right (by omega), hl, Nat.sub_self] at hi
      simp at hi
      subst hi
      exact hy
end
/-- A slice of parts, as a row hands it over. -/
structure PartsArg (w : World) (ps : List Prt) (v : Value) : Prop where
  ex : ∃ A n c, v = .slice A n c ∧ ps.length = n ∧ n ≤ 9223372036854775807 ∧ RowF w 8 n (ps.flatMap partF) (.slice A n c)
  ok : ∀ p ∈ ps, PrtOk p
/-- A part's cells. -/
structure PartCells (w : World) (a : Addr) (i : Nat) (p : Prt) (zs : List Value) : Prop where
  row : FRow w Bare (partF p) zs
  at_ : ∀ j u, zs[j]? = some u → w.cell? (a.add (i * 8 + j)) = some u
  ok : PrtOk p
theorem parts_row {w : World} {a : Addr} : ∀ (ls : List (Prt × List Value)) (k : Nat), (∀ (i : Nat) (x : Prt × List Value), ls[i]? = some x → PartCells w a (k + i) x.1 x.2) →
    FRow w Bare ((ls.map (·.1)).flatMap partF) (ls.flatMap (·.2)) ∧ (ls.flatMap (·.2)).length = ls.length * 8 ∧ ∀ j u, (ls.flatMap (·.2))[j]? = some u → w.cell? (a.add (k * 8 + j)) = some u
  | [], k, _ => ⟨rfl, by simp, fun j u h => by simp at h⟩
  | x :: t, k, h => by
    have hx := h 0 x rfl
    obtain ⟨h1, h2, h3⟩ := parts_row t (k + 1) (fun i y hy => by
      have := h (i + 1) y (by simpa using hy)
      rwa [show k + (i + 1) = k + 1 + i by omega] at this)
    have hl : x.2.length = 8 := hx.row.length
    refine ⟨?_, ?_, fun j u hj => ?_⟩
    · rw [List.map_cons, List.flatMap_cons, List.flatMap_cons]
      exact hx.row.append h1
    · rw [List.flatMap_cons, List.length_append, h2, hl, List.length_cons]
      omega
    · rw [List.flatMap_cons] at hj
      by_cases hlt : j < 8
      · rw [List.getElem?_append_left (by omega)] at hj
        have := hx.at_ j u hj
        rwa [Nat.add_zero] at this
      · rw [List.getElem?_append_right (by omega), hl] at hj
        have := h3 (j - 8) u hj
        rwa [show (k + 1) * 8 + (j - 8) = k * 8 + j by omega] at this
theorem parts_ok {w : World} {a : Addr} (ls : List (Prt × List Value)) (h : ∀ (i : Nat) (x : Prt × List Value), ls[i]? = some x → PartCells w a i x.1 x.2) : ∀ p ∈ ls.map (·.1), PrtOk p := by
  intro p hp
  obtain ⟨x, hx, rfl⟩ := List.mem_map.1 hp
  obtain ⟨i, hi⟩ := List.mem_iff_getElem?.1 hx
  exact (h i x hi).ok
section
variable {H : Type} {enc : TypeId × Value → H} {w : World} {base : Nat} {spare : Nat → Bool} {held : Bool}
theorem in_open {A : Option Addr} {n c : Nat} {l : List UInt8} (hn : n ≤ c) (hl : l.length = n) (hr : Reads w w.heap.size 1 A n (u8s l)) : FV.In w Bare (.bytes l) (.slice A n c) := by
  subst hl
  exact ⟨A, c, rfl, hn, hr, fun _ ad _ h => h⟩
theorem wrap_i32 {z : Int} (h : (Lit.int .i32 z).wf = true) : IntKind.i64.wrap z = z := by
  simp [Lit.wf, IntKind.min, IntKind.max, IntKind.signed, IntKind.bits] at h
  exact IntWalk.i64_in _ (by omega)
set_option maxRecDepth 100000 in
theorem part_open {a : Addr} {i n : Nat} {ys : List (DataW H × List MemPlace)} {fs : Array Field} (hfs : Tryd.prog.underlying 44 = some (.struct fs))
    (h : ∀ (j : Nat) (f : Field), fs[j]? = some f → ∃ (v : Value) (y : DataW H × List MemPlace), w.cell? (a.add (i * fs.size + j)) = some v ∧ ys[j]? = some y ∧ DataW.trod enc Tryd.prog w base spare held n f.type [v] = some y) :
    ∃ x : Prt × List Value, PartCells w a i x.1 x.2 := by
  obtain rfl : _ = fs := by
    have h0 := (Tryd.underlying44).symm.trans hfs
    injection h0 with h0
    injection h0
  obtain ⟨v0, y0, k0, _, t0⟩ := h 0 _ rfl
  obtain ⟨v1, y1, k1, _, t1⟩ := h 1 _ rfl
  obtain ⟨v2, y2, k2, _, t2⟩ := h 2 _ rfl
  obtain ⟨v3, y3, k3, _, t3⟩ := h 3 _ rfl
  obtain ⟨v4, y4, k4, _, t4⟩ := h 4 _ rfl
  obtain ⟨v5, y5, k5, _, t5⟩ := h 5 _ rfl
  obtain ⟨v6, y6, k6, _, t6⟩ := h 6 _ rfl
  obtain ⟨v7, y7, k7, _, t7⟩ := h 7 _ rfl
  obtain ⟨z0, e0, _, w0⟩ := DataW.trod_int Tryd.underlying5 t0
  obtain ⟨z1, e1, _, w1⟩ := DataW.trod_int Tryd.underlying5 t1
  obtain ⟨z2, e2, _, w2⟩ := DataW.trod_int Tryd.underlying21 t2
  obtain ⟨z3, e3, _, w3⟩ := DataW.trod_int Tryd.underlying21 t3
  obtain ⟨b4, e4, _⟩ := DataW.trod_bool Tryd.underlying4 t4
  obtain ⟨b5, e5, _⟩ := DataW.trod_bool Tryd.underlying4 t5
  obtain ⟨A6, n6, c6, l6, rfl, h61, h62, h63, h64⟩ := bytes_open Tryd.underlying32 Tryd.underlying5 (by kernel_rfl) t6
  obtain ⟨A7, n7, c7, l7, rfl, h71, h72, h73, h74⟩ := bytes_open Tryd.underlying32 Tryd.underlying5 (by kernel_rfl) t7
  obtain rfl := List.cons.inj e0 |>.1
  obtain rfl := List.cons.inj e1 |>.1
  obtain rfl := List.cons.inj e2 |>.1
  obtain rfl := List.cons.inj e3 |>.1
  obtain rfl := List.cons.inj e4 |>.1
  obtain rfl := List.cons.inj e5 |>.1
  have r2 := wrap_i32 w2
  have r3 := wrap_i32 w3
  simp [Lit.wf, IntKind.min, IntKind.max, IntKind.signed, IntKind.bits] at w0 w1
  have c0 : ((z0.toNat : Nat) : Int) = z0 := Int.toNat_of_nonneg (by omega)
  have c1 : ((z1.toNat : Nat) : Int) = z1 := Int.toNat_of_nonneg (by omega)
  refine ⟨(⟨z0.toNat, z1.toNat, z2, z3, b4, b5, l6, l7⟩, [.int .u8 z0, .int .u8 z1, .int .i32 z2, .int .i32 z3, .bool b4, .bool b5, .slice A6 n6 c6, .slice A7 n7 c7]), ⟨?_, ?_, ⟨?_, ?_, r2, r3⟩⟩⟩
  · exact ⟨_, _, rfl, ⟨by show Value.int .u8 z0 = .int .u8 ((z0.toNat : Nat) : Int); rw [c0], rfl⟩, _, _, rfl, ⟨by show Value.int .u8 z1 = .int .u8 ((z1.toNat : Nat) : Int); rw [c1], rfl⟩, _, _, rfl, ⟨rfl, rfl⟩, _, _, rfl, ⟨rfl, rfl⟩, _, _, rfl, ⟨rfl, rfl⟩, _, _, rfl, ⟨rfl, rfl⟩, _, _, rfl, in_open h61 h63 h64, _, _, rfl, in_open h71 h73 h74, rfl⟩
  · intro j u hu
    have hj : j < 8 := by simpa using (List.getElem?_eq_some_iff.1 hu).1
    have hs : j = 0 ∨ j = 1 ∨ j = 2 ∨ j = 3 ∨ j = 4 ∨ j = 5 ∨ j = 6 ∨ j = 7 := by omega
    rcases hs with rfl | rfl | rfl | rfl | rfl | rfl | rfl | rfl <;> (simp at hu; subst hu; assumption)
  · show z0.toNat < 256
    omega
  · show z1.toNat < 256
    omega
set_option maxRecDepth 100000 in
theorem parts_open {r : Reach} {b0 : Nat} {v : Value} {d : DataW H} {p : List MemPlace} (hv : Value.okWide Tryd.prog w r b0 22 v) (h : DataW.Trod enc Tryd.prog w base spare held 22 v d p) : ∃ ps, PartsArg w ps v := by
  obtain ⟨a, len, cap, rfl⟩ := okWide_slice Tryd.underlying22 hv
  obtain ⟨fuel, hf⟩ := h
  rcases open_slice_fields Tryd.underlying22 Tryd.underlying44 (by kernel_rfl) (by kernel_rfl) hf with ⟨hcs, _⟩ | ⟨a, len, cap, m2, D, Pl, hcs, _, hl, hm, hm2, _, hi⟩
  · simp [Value.cells] at hcs
    obtain ⟨rfl, rfl, rfl⟩ := hcs
    exact ⟨[], ⟨none, 0, 0, rfl, rfl, by omega, none, 0, [], rfl, Nat.le_refl _, ⟨by simp, fun h => absurd h (by omega)⟩, rfl⟩, by simp⟩
  · simp [Value.cells] at hcs
    obtain ⟨rfl, rfl, rfl⟩ := hcs
    have hle : len ≤ m2 := by rw [hm2]; split <;> omega
    obtain ⟨ls, hln, hq⟩ := list_of (Q := fun i x => PartCells w a i (x : Prt × List Value).1 x.2) len fun i hilt => by
      obtain ⟨ys, n', _, _, _, hf⟩ := hi i (by omega)
      exact part_open Tryd.underlying44 hf
    obtain ⟨h1, h2, h3⟩ := parts_row ls 0 (fun i x hx => by rw [Nat.zero_add]; exact hq i x hx)
    refine ⟨ls.map (·.1), ⟨some a, len, cap, rfl, by rw [List.length_map]; exact hln, by unfold maxLen at hm; omega, some a, cap, _, rfl, hl, ⟨by rw [h2, hln], fun h0 => ⟨a, rfl, ?_, fun j u hu => ?_⟩⟩, h1⟩, parts_ok ls hq⟩
    · have hx := (hq 0 ls[0] (List.getElem?_eq_getElem (by omega))).at_ 0
      have hl8 := (hq 0 ls[0] (List.getElem?_eq_getElem (by omega))).row.length
      have hc := hx _ (List.getElem?_eq_getElem (by rw [hl8]; exact (by decide : 0 < 8)))
      have := World.block_lt_of_cell? w _ hc
      rwa [block_of_add] at this
    · have := h3 j u hu
      rwa [Nat.zero_mul, Nat.zero_add] at this
end
set_option maxRecDepth 100000 in
theorem bytes_row (ps : List Prt) (v : Value) (full : Bool) (z : Int) (W : World) (h : PartsArg W ps v) (hz : (Lit.int .i32 z).wf = true) (_ : laidMetH Tryd.prog Rows.fnMsgBytesRow.laid W) :
    Calls Tryd.prog 3 #[v, .bool full, .int .i32 z] W fun e W' => e = .returned (.bool true) ∧ Below W.heap.size W W' := by
  obtain ⟨A, n, c, rfl, hn, hm, hr⟩ := h.ex
  exact (lawBytes_any A n c ps full z W hr hn hm h.ok (wrap_i32 hz)).mono fun e W' h => ⟨h.ret, h.below⟩
end Go.Proofs.YtocdbecakefnnaaDoor
