/- Where the errors lie, out of what the row lists; the law FnFieldsSize in the form in which a row hands over its argument. -/
import Derived.LaidLaws
import Derived.MakeChecks
import Derived.RowKit
import Derived.LaidMore
import Derived.Test.YtijbnmmeecmbjaaDoorFlSz
import Derived.Test.YtijbnmmeecmbjaaDoorSized
namespace Go.Proofs.YtijbnmmeecmbjaaDoor
open Go.ChangeShapes Go.WideShapes Go.RowKit

theorem gE1 : Tryd.prog.globalNamed "io.ErrUnexpectedEOF" = some 1 := by kernel_rfl
theorem gE2 : Tryd.prog.globalNamed "pub-tholos/pub/boxo/ipld/unixfs/pb.ErrInvalidLengthUnixfs" = some 2 := by kernel_rfl
theorem gE0 : Tryd.prog.globalNamed "pub-tholos/pub/boxo/ipld/unixfs/pb.ErrIntOverflowUnixfs" = some 0 := by kernel_rfl
theorem gE4 : Tryd.prog.globalNamed "pub-tholos/pub/boxo/ipld/unixfs/pb.ErrUnexpectedEndOfGroupUnixfs" = some 4 := by kernel_rfl
theorem gE3 : Tryd.prog.globalNamed "pub-tholos/pub/boxo/ipld/unixfs/pb.ErrRequiredNotSetUnixfs" = some 3 := by kernel_rfl
theorem tE1 : (Tryd.prog.globals[1]?).map (·.type) = some 53 := by kernel_rfl
theorem tE2 : (Tryd.prog.globals[2]?).map (·.type) = some 53 := by kernel_rfl
theorem tE0 : (Tryd.prog.globals[0]?).map (·.type) = some 53 := by kernel_rfl
theorem tE4 : (Tryd.prog.globals[4]?).map (·.type) = some 53 := by kernel_rfl
theorem tE3 : (Tryd.prog.globals[3]?).map (·.type) = some 53 := by kernel_rfl
theorem starE : "*" ++ "errors.errorString" = "*errors.errorString" := by decide
theorem cellsE : Tryd.prog.cellsOf 92 = 1 := by kernel_rfl
theorem cellsS : Tryd.prog.cellsOf 9 = 1 := by kernel_rfl
theorem rowE (u : TypeId) (h : Tryd.prog.typeName? 3 u = some "*errors.errorString") : u = 90 :=
  typeName_ptr_named (nm := "errors.errorString") (by rw [starE]; kernel_rfl) (by kernel_rfl) (by decide) u (by rw [starE]; exact h)
set_option maxRecDepth 100000 in
set_option maxHeartbeats 4000000 in
theorem errs_of_laid {W : World} (h : laidMetH Tryd.prog Rows.fnFieldsSizeRow.laid W) : ∃ a0 a1 a2 a3, ErrsF W a0 a1 a2 a3 := by
  rw [MakeChecks.laidMetH_plain _ _ _ (by kernel_rfl)] at h
  obtain ⟨ps, ⟨g0, t0, cs0, f0, p0, q0, hg0, ht0, hv0, hd0, ⟨g1, t1, cs1, f1, p1, q1, hg1, ht1, hv1, hd1, ⟨g2, t2, cs2, f2, p2, q2, hg2, ht2, hv2, hd2, ⟨g3, t3, cs3, f3, p3, q3, hg3, ht3, hv3, hd3, ⟨g4, t4, cs4, f4, p4, q4, hg4, ht4, hv4, hd4, hq4, e4⟩, e3⟩, e2⟩, e1⟩, e0⟩, hnd, hrows⟩ := h
  obtain rfl := Option.some.inj (gE1.symm.trans hg0)
  obtain rfl := Option.some.inj (gE2.symm.trans hg1)
  obtain rfl := Option.some.inj (gE0.symm.trans hg2)
  obtain rfl := Option.some.inj (gE4.symm.trans hg3)
  obtain rfl := Option.some.inj (gE3.symm.trans hg4)
  obtain rfl := Option.some.inj (tE1.symm.trans ht0)
  obtain rfl := Option.some.inj (tE2.symm.trans ht1)
  obtain rfl := Option.some.inj (tE0.symm.trans ht2)
  obtain rfl := Option.some.inj (tE4.symm.trans ht3)
  obtain rfl := Option.some.inj (tE3.symm.trans ht4)
  have hq' : q4 = [] := hq4
  subst hq'
  subst e4 e3 e2 e1 e0
  obtain ⟨l0⟩ := cs0
  obtain ⟨l1⟩ := cs1
  obtain ⟨l2⟩ := cs2
  obtain ⟨l3⟩ := cs3
  obtain ⟨l4⟩ := cs4
  have ok0 : ∀ u v, l0 = [.iface u v] → Value.okWide Tryd.prog W .any 0 u v := fun u v e => by
    subst e
    exact (hrows 1 0 (by simp [MemPlace.row])).2 u v (by simpa using World.var?_cell hg0 hv0 0)
  have ok1 : ∀ u v, l1 = [.iface u v] → Value.okWide Tryd.prog W .any 0 u v := fun u v e => by
    subst e
    exact (hrows 2 0 (by simp [MemPlace.row])).2 u v (by simpa using World.var?_cell hg1 hv1 0)
  have ok2 : ∀ u v, l2 = [.iface u v] → Value.okWide Tryd.prog W .any 0 u v := fun u v e => by
    subst e
    exact (hrows 0 0 (by simp [MemPlace.row])).2 u v (by simpa using World.var?_cell hg2 hv2 0)
  have ok3 : ∀ u v, l3 = [.iface u v] → Value.okWide Tryd.prog W .any 0 u v := fun u v e => by
    subst e
    exact (hrows 4 0 (by simp [MemPlace.row])).2 u v (by simpa using World.var?_cell hg3 hv3 0)
  have ok4 : ∀ u v, l4 = [.iface u v] → Value.okWide Tryd.prog W .any 0 u v := fun u v e => by
    subst e
    exact (hrows 3 0 (by simp [MemPlace.row])).2 u v (by simpa using World.var?_cell hg4 hv4 0)
  obtain ⟨a1, s1, rfl, _, _, _, rfl⟩ := errorString_of_trod Tryd.underlying53 rowE Tryd.underlying90 Tryd.underlying92 rfl rfl Tryd.underlying9 cellsE cellsS hd0 ok0
  obtain ⟨a2, s2, rfl, _, _, _, rfl⟩ := errorString_of_trod Tryd.underlying53 rowE Tryd.underlying90 Tryd.underlying92 rfl rfl Tryd.underlying9 cellsE cellsS hd1 ok1
  obtain ⟨a0, s0, rfl, _, _, _, rfl⟩ := errorString_of_trod Tryd.underlying53 rowE Tryd.underlying90 Tryd.underlying92 rfl rfl Tryd.underlying9 cellsE cellsS hd2 ok2
  obtain ⟨a4, s4, rfl, _, _, _, rfl⟩ := errorString_of_trod Tryd.underlying53 rowE Tryd.underlying90 Tryd.underlying92 rfl rfl Tryd.underlying9 cellsE cellsS hd3 ok3
  obtain ⟨a3, s3, rfl, _, _, _, rfl⟩ := errorString_of_trod Tryd.underlying53 rowE Tryd.underlying90 Tryd.underlying92 rfl rfl Tryd.underlying9 cellsE cellsS hd4 ok4
  have k1 : W.cell? ⟨1, 0, none⟩ = some (.iface 90 (.pointer (some a1))) := by simpa using World.var?_cell hg0 hv0 0
  have k2 : W.cell? ⟨2, 0, none⟩ = some (.iface 90 (.pointer (some a2))) := by simpa using World.var?_cell hg1 hv1 0
  have k0 : W.cell? ⟨0, 0, none⟩ = some (.iface 90 (.pointer (some a0))) := by simpa using World.var?_cell hg2 hv2 0
  have k4 : W.cell? ⟨4, 0, none⟩ = some (.iface 90 (.pointer (some a4))) := by simpa using World.var?_cell hg3 hv3 0
  have k3 : W.cell? ⟨3, 0, none⟩ = some (.iface 90 (.pointer (some a3))) := by simpa using World.var?_cell hg4 hv4 0
  have h5 := World.block_lt_of_cell? W ⟨4, 0, none⟩ k4
  exact ⟨a0, a1, a2, a3, k0, k1, k2, k3, h5⟩
theorem bytes_are {zs : List Int} (h : ∀ z ∈ zs, (Lit.int .u8 z).wf = true) : ∃ l : List UInt8, zs.map (fun z => Value.int .u8 z) = u8s l ∧ l.length = zs.length := by
  refine ⟨zs.map fun z => UInt8.ofNat z.toNat, ?_, by simp⟩
  simp only [u8s, List.map_map]
  refine List.map_congr_left fun z hz => ?_
  have hw := h z hz
  simp [Lit.wf, IntKind.min, IntKind.max, IntKind.signed, IntKind.bits] at hw
  have h1 : (UInt8.ofNat z.toNat).toNat = z.toNat := UInt8.toNat_ofNat_of_lt' (by show _ < 256; omega)
  simp only [Function.comp_apply, h1]
  congr 1
  omega
/-- A row of bytes reads as bytes. -/
theorem IsRow.reads {w : World} {A : Option Addr} {n c : Nat} {zs : List Int} (h : IsRow .u8 w A n c zs) : n ≤ c ∧ c ≤ 9223372036854775807 ∧ ∃ l : List UInt8, Reads w w.heap.size 1 A n (u8s l) := by
  rcases h with ⟨rfl, rfl, rfl, rfl⟩ | ⟨a, rfl, hl, hm, hz, hcell, hw⟩
  · exact ⟨Nat.le_refl _, by omega, [], Reads.none_⟩
  · refine ⟨hl, by unfold maxLen at hm; omega, ?_⟩
    obtain ⟨l, hl1, hl2⟩ := bytes_are (zs := zs.take n) fun z hz' => hw z (List.mem_of_mem_take hz')
    have hl3 : l.length = n := by rw [hl2, List.length_take]; omega
    refine ⟨l, by rw [u8s_length]; omega, fun hn => ⟨a, rfl, ?_, fun j u hu => ?_⟩⟩
    · have h0 := hcell 0 (by omega)
      have := World.block_lt_of_cell? w _ h0
      rwa [block_of_add] at this
    · rw [← hl1] at hu
      have hj : j < (zs.take n).length := by
        have := (List.getElem?_eq_some_iff.1 hu).1
        simpa using this
      rw [List.length_take] at hj
      rw [hcell j (by omega)]
      rw [List.getElem?_map, List.getElem?_take_of_lt (by omega), List.getElem?_eq_getElem (by omega)] at hu
      simp only [Option.map_some, Option.some.injEq] at hu
      rw [← hu]
      simp [List.getD, List.getElem?_eq_getElem (show j < zs.length by omega)]
theorem size_row (A : Option Addr) (n c : Nat) (zs : List Int) (W : World) (hr : IsRow .u8 W A n c zs) (hL : laidMetH Tryd.prog Rows.fnFieldsSizeRow.laid W) :
    Calls Tryd.prog 3 #[.slice A n c] W fun e W' => e = .returned (.bool true) ∧ Below W.heap.size W W' := by
  obtain ⟨a0, a1, a2, a3, he⟩ := errs_of_laid hL
  obtain ⟨h1, h2, l, h3⟩ := hr.reads
  exact (fieldsSize_any A n c W.heap.size l W a0 a1 a2 a3 h3 (Nat.le_refl _) h1 h2 he).mono fun e W' h => ⟨h.ret, h.below⟩
end Go.Proofs.YtijbnmmeecmbjaaDoor
