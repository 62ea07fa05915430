/- The thin package's PbSame. -/
import Derived.Test.YthgbhaackihbjaaDoorPbQ
namespace Go.Proofs.YthgbhaackihbjaaDoor
open Go.RowKit

set_option maxRecDepth 100000 in
set_option maxHeartbeats 4000000 in
theorem implSame_any (x y : PNd) (v v' : Value) (B : Nat) (w : World) (hx : NodeArg w B x v) (hy : NodeArg w B y v') (hB : B ≤ w.heap.size) (hs : Small x) (hs' : Small y) :
    Calls Tryd.prog 13 #[v, v'] w (Ans w (nodeEq (mn x) (mn y))) := by
  obtain ⟨A, n, c, A2, n2, c2, rfl, hrest⟩ := hx.ex
  obtain ⟨A', n', c', A2', n2', c2', rfl, hrest'⟩ := hy.ex
  obtain ⟨has, data, links⟩ := x
  obtain ⟨has', data', links'⟩ := y
  have hbt := below_two w (.cells #[.bool has, .slice A n c, .slice A2 n2 c2] 28) (.cells #[.bool has', .slice A' n' c', .slice A2' n2' c2'] 28)
  have hx1 := hx.below (hbt.mono hB)
  have hy1 := hy.below (hbt.mono hB)
  have HBT := Lib.hid hbt
  have HX := Lib.hid hx1
  have HY := Lib.hid hy1
  have HS := Lib.hid hs
  have HS' := Lib.hid hs'
  have hz : B ≤ ((w.alloc (.cells #[.bool has, .slice A n c, .slice A2 n2 c2] 28)).alloc (.cells #[.bool has', .slice A' n' c', .slice A2' n2' c2'] 28)).heap.size := by simp; omega
  have HZ := Lib.hid hz
  clear hrest hrest' hx hy hx1 hy1 hbt hs hs' hz
  go_enter Tryd.func13, Tryd.ntmps13
  go_wp2_with fail
  go_region_law (first | (go_simp; go_at_call_of 23 (Value.agg #[.bool has, .slice A n c, .slice A2 n2 c2]); refine (pbNode_any ⟨has, data, links⟩ _ B _ (HX.out.below (below_drewN (Below.refl _ _) 1)) HZ.out HS.out.d HS.out.k HS.out.h).mono ?_; rintro e w2 ⟨⟨p, rfl, hobj⟩, hb2⟩; have hb2' : Below ((w.alloc (.cells #[.bool has, .slice A n c, .slice A2 n2 c2] 28)).alloc (.cells #[.bool has', .slice A' n' c', .slice A2' n2' c2'] 28)).heap.size ((w.alloc (.cells #[.bool has, .slice A n c, .slice A2 n2 c2] 28)).alloc (.cells #[.bool has', .slice A' n' c', .slice A2' n2' c2'] 28)) w2 := ⟨hb2.os, hb2.tape, hb2.output, hb2.size, hb2.block⟩; have k0 : w2.cell? ⟨w.heap.size + 1, 0, none⟩ = some (.bool has') := (hb2'.cell (p := ⟨w.heap.size + 1, 0, none⟩) (by simp)).trans (by simp); have k1 : w2.cell? ⟨w.heap.size + 1, 1, none⟩ = some (.slice A' n' c') := (hb2'.cell (p := ⟨w.heap.size + 1, 1, none⟩) (by simp)).trans (by simp); have k2 : w2.cell? ⟨w.heap.size + 1, 2, none⟩ = some (.slice A2' n2' c2') := (hb2'.cell (p := ⟨w.heap.size + 1, 2, none⟩) (by simp)).trans (by simp); have HOBJ := Lib.hid hobj; have HB2 := Lib.hid hb2'; have HY2 := Lib.hid (HY.out.below (hb2'.mono HZ.out)); have HZ2 := Lib.hid (Nat.le_trans HZ.out hb2'.size); clear hobj hb2 hb2') | (go_simp; go_at_call_of 23 (Value.agg #[.bool has', .slice A' n' c', .slice A2' n2' c2']); refine (pbNode_any ⟨has', data', links'⟩ _ B _ HY2.out HZ2.out HS'.out.d HS'.out.k HS'.out.h).mono ?_; rintro e w3 ⟨⟨q, rfl, hobj3⟩, hb3⟩; have HOBJ3 := Lib.hid hobj3; have HB3 := Lib.hid hb3; clear hobj3 hb3) | (go_simp; go_at_call 26; refine (nodeEq_any p q _ _ _ _ (mn ⟨has, data, links⟩) (mn ⟨has', data', links'⟩) _ (HOBJ.out.below HB3.out) HOBJ3.out (by simpa [mn] using HS.out.k) (by simpa [mn] using HS'.out.k)).mono ?_; rintro e w4 ⟨rfl, k, rfl⟩) | fail)
  all_goals
    go_wp2
    go_ret
    exact ⟨rfl, below_drewN (below_then (below_then HBT.out (by simp; omega) HB2.out) (by have := HB2.out.size; simp at this; omega) HB3.out) k⟩
end Go.Proofs.YthgbhaackihbjaaDoor
