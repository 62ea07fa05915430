/- Where the three errors lie, out of what the row lists. -/
import Derived.LaidLaws
import Derived.MakeChecks
import Derived.RowKit
import Derived.LaidMore
import Derived.Test.YtijbdinemjiepaaDoorCidX
namespace Go.Proofs.YtijbdinemjiepaaDoor
open Go.ChangeShapes Go.WideShapes Go.RowKit

theorem gE1 : Tryd.prog.globalNamed "pub-tholos/pub/boxo/verifcid.ErrPossiblyInsecureHashFunction" = some 1 := by kernel_rfl
theorem gE2 : Tryd.prog.globalNamed "pub-tholos/pub/boxo/verifcid.ErrBelowMinimumHashLength" = some 2 := by kernel_rfl
theorem gE3 : Tryd.prog.globalNamed "pub-tholos/pub/boxo/verifcid.ErrAboveMaximumHashLength" = some 3 := by kernel_rfl
theorem tE1 : (Tryd.prog.globals[1]?).map (·.type) = some 91 := by kernel_rfl
theorem tE2 : (Tryd.prog.globals[2]?).map (·.type) = some 91 := by kernel_rfl
theorem tE3 : (Tryd.prog.globals[3]?).map (·.type) = some 91 := by kernel_rfl
theorem starE : "*" ++ "errors.errorString" = "*errors.errorString" := by decide
theorem cellsE : Tryd.prog.cellsOf 155 = 1 := by kernel_rfl
theorem cellsS : Tryd.prog.cellsOf 9 = 1 := by kernel_rfl
theorem rowE (u : TypeId) (h : Tryd.prog.typeName? 3 u = some "*errors.errorString") : u = 153 :=
  typeName_ptr_named (nm := "errors.errorString") (by rw [starE]; kernel_rfl) (by kernel_rfl) (by decide) u (by rw [starE]; exact h)
set_option maxRecDepth 100000 in
set_option maxHeartbeats 4000000 in
theorem errs_of_laid {W : World} (h : laidMetH Tryd.prog Rows.fnCidSafeRow.laid W) : ∃ a1 a2 a3, Errs W a1 a2 a3 := by
  rw [MakeChecks.laidMetH_plain _ _ _ (by kernel_rfl)] at h
  obtain ⟨ps, ⟨g0, t0, cs0, f0, p0, q0, hg0, ht0, hv0, hd0, ⟨g1, t1, cs1, f1, p1, q1, hg1, ht1, hv1, hd1, ⟨g2, t2, cs2, f2, p2, q2, hg2, ht2, hv2, hd2, ⟨g3, t3, cs3, f3, p3, q3, hg3, ht3, hv3, hd3, ⟨g4, t4, cs4, f4, p4, q4, hg4, ht4, hv4, hd4, ⟨g5, t5, cs5, f5, p5, q5, hg5, ht5, hv5, hd5, ⟨g6, t6, cs6, f6, p6, q6, hg6, ht6, hv6, hd6, ⟨g7, t7, cs7, f7, p7, q7, hg7, ht7, hv7, hd7, ⟨g8, t8, cs8, f8, p8, q8, hg8, ht8, hv8, hd8, ⟨g9, t9, cs9, f9, p9, q9, hg9, ht9, hv9, hd9, hq9, e9⟩, e8⟩, e7⟩, e6⟩, e5⟩, e4⟩, e3⟩, e2⟩, e1⟩, e0⟩, hnd, hrows⟩ := h
  obtain rfl := Option.some.inj (gE1.symm.trans hg7)
  obtain rfl := Option.some.inj (gE2.symm.trans hg8)
  obtain rfl := Option.some.inj (gE3.symm.trans hg9)
  obtain rfl := Option.some.inj (tE1.symm.trans ht7)
  obtain rfl := Option.some.inj (tE2.symm.trans ht8)
  obtain rfl := Option.some.inj (tE3.symm.trans ht9)
  have hq' : q9 = [] := hq9
  subst hq'
  subst e9 e8 e7 e6 e5 e4 e3 e2 e1 e0
  obtain ⟨l7⟩ := cs7
  obtain ⟨l8⟩ := cs8
  obtain ⟨l9⟩ := cs9
  have ok7 : ∀ u v, l7 = [.iface u v] → Value.okWide Tryd.prog W .any 0 u v := fun u v e => by
    subst e
    exact (hrows 1 0 (by simp [MemPlace.row])).2 u v (by simpa using World.var?_cell hg7 hv7 0)
  have ok8 : ∀ u v, l8 = [.iface u v] → Value.okWide Tryd.prog W .any 0 u v := fun u v e => by
    subst e
    exact (hrows 2 0 (by simp [MemPlace.row])).2 u v (by simpa using World.var?_cell hg8 hv8 0)
  have ok9 : ∀ u v, l9 = [.iface u v] → Value.okWide Tryd.prog W .any 0 u v := fun u v e => by
    subst e
    exact (hrows 3 0 (by simp [MemPlace.row])).2 u v (by simpa using World.var?_cell hg9 hv9 0)
  obtain ⟨a1, s1, rfl, _, _, _, rfl⟩ := errorString_of_trod Tryd.underlying91 rowE Tryd.underlying153 Tryd.underlying155 rfl rfl Tryd.underlying9 cellsE cellsS hd7 ok7
  obtain ⟨a2, s2, rfl, _, _, _, rfl⟩ := errorString_of_trod Tryd.underlying91 rowE Tryd.underlying153 Tryd.underlying155 rfl rfl Tryd.underlying9 cellsE cellsS hd8 ok8
  obtain ⟨a3, s3, rfl, _, _, _, rfl⟩ := errorString_of_trod Tryd.underlying91 rowE Tryd.underlying153 Tryd.underlying155 rfl rfl Tryd.underlying9 cellsE cellsS hd9 ok9
  have b1 := (hrows a1.block a1.off (by simp [MemPlace.row])).1
  have b2 := (hrows a2.block a2.off (by simp [MemPlace.row])).1
  have b3 := (hrows a3.block a3.off (by simp [MemPlace.row])).1
  have k1 : W.cell? ⟨1, 0, none⟩ = some (.iface 153 (.pointer (some a1))) := by simpa using World.var?_cell hg7 hv7 0
  have k2 : W.cell? ⟨2, 0, none⟩ = some (.iface 153 (.pointer (some a2))) := by simpa using World.var?_cell hg8 hv8 0
  have k3 : W.cell? ⟨3, 0, none⟩ = some (.iface 153 (.pointer (some a3))) := by simpa using World.var?_cell hg9 hv9 0
  have nd : (MemPlace.row a1 1 ++ (MemPlace.row a2 1 ++ MemPlace.row a3 1)).Nodup ∨ True := .inr trivial
  clear nd
  refine ⟨a1, a2, a3, k1, k2, k3, ?_, ?_, ?_, b1, b2, b3⟩
  · rintro rfl
    simp [MemPlace.row, List.nodup_append] at hnd
  · rintro rfl
    simp [MemPlace.row, List.nodup_append] at hnd
  · rintro rfl
    simp [MemPlace.row, List.nodup_append] at hnd
end Go.Proofs.YtijbdinemjiepaaDoor
