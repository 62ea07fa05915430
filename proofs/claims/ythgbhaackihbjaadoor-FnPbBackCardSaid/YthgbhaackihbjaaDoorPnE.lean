/- Where the errors lie, out of what a row lists. -/
import Derived.LaidLaws
import Derived.MakeChecks
import Derived.RowKit
import Derived.LaidMore
import Derived.Test.YthgbhaackihbjaaDoorRows
import Derived.Test.YthgbhaackihbjaaDoorPnL
namespace Go.Proofs.YthgbhaackihbjaaDoor
open Go.ChangeShapes Go.WideShapes Go.RowKit

theorem gE1 : Tryd.prog.globalNamed "io.ErrUnexpectedEOF" = some 1 := by kernel_rfl
theorem gE2 : Tryd.prog.globalNamed "pub-tholos/pub/boxo/ipld/merkledag/pb.ErrInvalidLengthMerkledag" = some 2 := by kernel_rfl
theorem gE0 : Tryd.prog.globalNamed "pub-tholos/pub/boxo/ipld/merkledag/pb.ErrIntOverflowMerkledag" = some 0 := by kernel_rfl
theorem gE3 : Tryd.prog.globalNamed "pub-tholos/pub/boxo/ipld/merkledag/pb.ErrUnexpectedEndOfGroupMerkledag" = some 3 := by kernel_rfl
theorem tE1 : (Tryd.prog.globals[1]?).map (·.type) = some 48 := by kernel_rfl
theorem tE2 : (Tryd.prog.globals[2]?).map (·.type) = some 48 := by kernel_rfl
theorem tE0 : (Tryd.prog.globals[0]?).map (·.type) = some 48 := by kernel_rfl
theorem tE3 : (Tryd.prog.globals[3]?).map (·.type) = some 48 := by kernel_rfl
theorem starE : "*" ++ "errors.errorString" = "*errors.errorString" := by decide
theorem cellsE : Tryd.prog.cellsOf 80 = 1 := by kernel_rfl
theorem cellsS : Tryd.prog.cellsOf 9 = 1 := by kernel_rfl
theorem rowE (u : TypeId) (h : Tryd.prog.typeName? 3 u = some "*errors.errorString") : u = 78 :=
  typeName_ptr_named (nm := "errors.errorString") (by rw [starE]; kernel_rfl) (by kernel_rfl) (by decide) u (by rw [starE]; exact h)
set_option maxRecDepth 100000 in
set_option maxHeartbeats 4000000 in
theorem errs_read {W : World} (h : laidMetH Tryd.prog Rows.fnPbReadRow.laid W) : ∃ a0 a1 a2, ErrsM W a0 a1 a2 := by
  rw [MakeChecks.laidMetH_plain _ _ _ (by kernel_rfl)] at h
  obtain ⟨ps, ⟨g0, t0, cs0, f0, p0, q0, hg0, ht0, hv0, hd0, ⟨g1, t1, cs1, f1, p1, q1, hg1, ht1, hv1, hd1, ⟨g2, t2, cs2, f2, p2, q2, hg2, ht2, hv2, hd2, ⟨g3, t3, cs3, f3, p3, q3, hg3, ht3, hv3, hd3, hq3, e3⟩, e2⟩, e1⟩, e0⟩, hnd, hrows⟩ := h
  obtain rfl := Option.some.inj (gE1.symm.trans hg0)
  obtain rfl := Option.some.inj (gE2.symm.trans hg1)
  obtain rfl := Option.some.inj (gE0.symm.trans hg2)
  obtain rfl := Option.some.inj (gE3.symm.trans hg3)
  obtain rfl := Option.some.inj (tE1.symm.trans ht0)
  obtain rfl := Option.some.inj (tE2.symm.trans ht1)
  obtain rfl := Option.some.inj (tE0.symm.trans ht2)
  obtain rfl := Option.some.inj (tE3.symm.trans ht3)
  have hq' : q3 = [] := hq3
  subst hq'
  subst e3 e2 e1 e0
  obtain ⟨l0⟩ := cs0
  obtain ⟨l1⟩ := cs1
  obtain ⟨l2⟩ := cs2
  obtain ⟨l3⟩ := cs3
  have ok0 : ∀ u v, l0 = [.iface u v] → Value.okWide Tryd.prog W .any 0 u v := fun u v e => by
    subst e
    exact (hrows 1 0 (by simp [MemPlace.row])).2 u v (by simpa using World.var?_cell hg0 hv0 0)
  have ok1 : ∀ u v, l1 = [.iface u v] → Value.okWide Tryd.prog W .any 0 u v := fun u v e => by
    subst e
    exact (hrows 2 0 (by simp [MemPlace.row])).2 u v (by simpa using World.var?_cell hg1 hv1 0)
  have ok2 : ∀ u v, l2 = [.iface u v] → Value.okWide Tryd.prog W .any 0 u v := fun u v e => by
    subst e
    exact (hrows 0 0 (by simp [MemPlace.row])).2 u v (by simpa using World.var?_cell hg2 hv2 0)
  obtain ⟨a1, s1, rfl, _, _, _, rfl⟩ := errorString_of_trod Tryd.underlying48 rowE Tryd.underlying78 Tryd.underlying80 rfl rfl Tryd.underlying9 cellsE cellsS hd0 ok0
  obtain ⟨a2, s2, rfl, _, _, _, rfl⟩ := errorString_of_trod Tryd.underlying48 rowE Tryd.underlying78 Tryd.underlying80 rfl rfl Tryd.underlying9 cellsE cellsS hd1 ok1
  obtain ⟨a0, s0, rfl, _, _, _, rfl⟩ := errorString_of_trod Tryd.underlying48 rowE Tryd.underlying78 Tryd.underlying80 rfl rfl Tryd.underlying9 cellsE cellsS hd2 ok2
  have k1 : W.cell? ⟨1, 0, none⟩ = some (.iface 78 (.pointer (some a1))) := by simpa using World.var?_cell hg0 hv0 0
  have k2 : W.cell? ⟨2, 0, none⟩ = some (.iface 78 (.pointer (some a2))) := by simpa using World.var?_cell hg1 hv1 0
  have k0 : W.cell? ⟨0, 0, none⟩ = some (.iface 78 (.pointer (some a0))) := by simpa using World.var?_cell hg2 hv2 0
  have h3 : 3 < W.heap.size := by
    have hv := hv3
    unfold World.var? at hv
    rw [hg3] at hv
    rcases Nat.lt_or_ge 3 W.heap.size with h | h
    · exact h
    · simp [Array.getElem?_eq_none h] at hv
  exact ⟨a0, a1, a2, k0, k1, k2, h3⟩
set_option maxRecDepth 100000 in
set_option maxHeartbeats 4000000 in
theorem errs_back {W : World} (h : laidMetH Tryd.prog Rows.fnPbBackRow.laid W) : ∃ a0 a1 a2, ErrsM W a0 a1 a2 := by
  rw [MakeChecks.laidMetH_plain _ _ _ (by kernel_rfl)] at h
  obtain ⟨ps, ⟨g0, t0, cs0, f0, p0, q0, hg0, ht0, hv0, hd0, ⟨g1, t1, cs1, f1, p1, q1, hg1, ht1, hv1, hd1, ⟨g2, t2, cs2, f2, p2, q2, hg2, ht2, hv2, hd2, ⟨g3, t3, cs3, f3, p3, q3, hg3, ht3, hv3, hd3, hq3, e3⟩, e2⟩, e1⟩, e0⟩, hnd, hrows⟩ := h
  obtain rfl := Option.some.inj (gE1.symm.trans hg0)
  obtain rfl := Option.some.inj (gE2.symm.trans hg1)
  obtain rfl := Option.some.inj (gE0.symm.trans hg2)
  obtain rfl := Option.some.inj (gE3.symm.trans hg3)
  obtain rfl := Option.some.inj (tE1.symm.trans ht0)
  obtain rfl := Option.some.inj (tE2.symm.trans ht1)
  obtain rfl := Option.some.inj (tE0.symm.trans ht2)
  obtain rfl := Option.some.inj (tE3.symm.trans ht3)
  have hq' : q3 = [] := hq3
  subst hq'
  subst e3 e2 e1 e0
  obtain ⟨l0⟩ := cs0
  obtain ⟨l1⟩ := cs1
  obtain ⟨l2⟩ := cs2
  obtain ⟨l3⟩ := cs3
  have ok0 : ∀ u v, l0 = [.iface u v] → Value.okWide Tryd.prog W .any 0 u v := fun u v e => by
    subst e
    exact (hrows 1 0 (by simp [MemPlace.row])).2 u v (by simpa using World.var?_cell hg0 hv0 0)
  have ok1 : ∀ u v, l1 = [.iface u v] → Value.okWide Tryd.prog W .any 0 u v := fun u v e => by
    subst e
    exact (hrows 2 0 (by simp [MemPlace.row])).2 u v (by simpa using World.var?_cell hg1 hv1 0)
  have ok2 : ∀ u v, l2 = [.iface u v] → Value.okWide Tryd.prog W .any 0 u v := fun u v e => by
    subst e
    exact (hrows 0 0 (by simp [MemPlace.row])).2 u v (by simpa using World.var?_cell hg2 hv2 0)
  obtain ⟨a1, s1, rfl, _, _, _, rfl⟩ := errorString_of_trod Tryd.underlying48 rowE Tryd.underlying78 Tryd.underlying80 rfl rfl Tryd.underlying9 cellsE cellsS hd0 ok0
  obtain ⟨a2, s2, rfl, _, _, _, rfl⟩ := errorString_of_trod Tryd.underlying48 rowE Tryd.underlying78 Tryd.underlying80 rfl rfl Tryd.underlying9 cellsE cellsS hd1 ok1
  obtain ⟨a0, s0, rfl, _, _, _, rfl⟩ := errorString_of_trod Tryd.underlying48 rowE Tryd.underlying78 Tryd.underlying80 rfl rfl Tryd.underlying9 cellsE cellsS hd2 ok2
  have k1 : W.cell? ⟨1, 0, none⟩ = some (.iface 78 (.pointer (some a1))) := by simpa using World.var?_cell hg0 hv0 0
  have k2 : W.cell? ⟨2, 0, none⟩ = some (.iface 78 (.pointer (some a2))) := by simpa using World.var?_cell hg1 hv1 0
  have k0 : W.cell? ⟨0, 0, none⟩ = some (.iface 78 (.pointer (some a0))) := by simpa using World.var?_cell hg2 hv2 0
  have h3 : 3 < W.heap.size := by
    have hv := hv3
    unfold World.var? at hv
    rw [hg3] at hv
    rcases Nat.lt_or_ge 3 W.heap.size with h | h
    · exact h
    · simp [Array.getElem?_eq_none h] at hv
  exact ⟨a0, a1, a2, k0, k1, k2, h3⟩
end Go.Proofs.YthgbhaackihbjaaDoor
