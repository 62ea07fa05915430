/- The law FnPbEqual: whatever the messages, the call returns true. -/
import Derived.Test.YthgbhaackihbjaaPbI
import Derived.Deep.RegionHeld3
namespace Go.Proofs.Ythgbhaackihbjaa
open Go.RowKit

theorem NodeArg.more {w : World} {B B' : Nat} {x : PNd} {v : Value} (h : NodeArg w B x v) (hb : B ≤ B') : NodeArg w B' x v := by
  obtain ⟨A, n, c, A2, n2, c2, h0, h1, h2, h3, h4, h5⟩ := h.ex
  exact ⟨A, n, c, A2, n2, c2, h0, h1, h2, h3.more hb, h4, h5.more hb⟩
/-- The law's two boxes and what the arguments hold. -/
structure St (w wx : World) (B : Nat) (x y : PNd) (a b c a' b' c' : Value) : Prop where
  k0 : wx.cell? ⟨w.heap.size, 0, none⟩ = some a
  k1 : wx.cell? ⟨w.heap.size, 1, none⟩ = some b
  k2 : wx.cell? ⟨w.heap.size, 2, none⟩ = some c
  l0 : wx.cell? ⟨w.heap.size + 1, 0, none⟩ = some a'
  l1 : wx.cell? ⟨w.heap.size + 1, 1, none⟩ = some b'
  l2 : wx.cell? ⟨w.heap.size + 1, 2, none⟩ = some c'
  x : NodeArg wx B x (.agg #[a, b, c])
  y : NodeArg wx B y (.agg #[a', b', c'])
  hB : B ≤ wx.heap.size
  hz : w.heap.size + 2 ≤ wx.heap.size
  below : Below w.heap.size w wx
theorem St.next {w wx wy : World} {B : Nat} {x y : PNd} {a b c a' b' c' : Value} (h : St w wx B x y a b c a' b' c') (hb : Below wx.heap.size wx wy) : St w wy B x y a b c a' b' c' := by
  have hz := h.hz
  have e : ∀ g j, g < wx.heap.size → wy.cell? ⟨g, j, none⟩ = wx.cell? ⟨g, j, none⟩ := fun g j hg => hb.cell (p := ⟨g, j, none⟩) hg
  have e0 := fun j => e w.heap.size j (by omega)
  have e1 := fun j => e (w.heap.size + 1) j (by omega)
  exact ⟨(e0 _).trans h.k0, (e0 _).trans h.k1, (e0 _).trans h.k2, (e1 _).trans h.l0, (e1 _).trans h.l1, (e1 _).trans h.l2, h.x.below (hb.mono h.hB), h.y.below (hb.mono h.hB), Nat.le_trans h.hB hb.size, Nat.le_trans hz hb.size, below_then h.below (by omega) hb⟩
theorem St.drew {w wx : World} {B : Nat} {x y : PNd} {a b c a' b' c' : Value} (h : St w wx B x y a b c a' b' c') : St w wx.drew B x y a b c a' b' c' := h.next (below_drewN (Below.refl _ wx) 1)
theorem St.start {w : World} {B : Nat} {x y : PNd} {a b c a' b' c' : Value} {t t' : TypeId} (hx : NodeArg w B x (.agg #[a, b, c])) (hy : NodeArg w B y (.agg #[a', b', c'])) (hB : B ≤ w.heap.size) : St w ((w.alloc (.cells #[a, b, c] t)).alloc (.cells #[a', b', c'] t')) B x y a b c a' b' c' := by
  have hb := below_two w (.cells #[a, b, c] t) (.cells #[a', b', c'] t')
  exact ⟨by simp, by simp, by simp, by simp, by simp, by simp, hx.below (hb.mono hB), hy.below (hb.mono hB), by simp; omega, by simp, hb⟩
set_option maxRecDepth 100000 in
set_option maxHeartbeats 4000000 in
theorem equal_any (x y : PNd) (v v' : Value) (B : Nat) (w : World) (hx : NodeArg w B x v) (hy : NodeArg w B y v') (hB : B ≤ w.heap.size) :
    Calls Try.prog 4 #[v, v'] w (Ans w true) := by
  obtain ⟨A, n, c, A2, n2, c2, rfl, hrest⟩ := hx.ex
  obtain ⟨A', n', c', A2', n2', c2', rfl, hrest'⟩ := hy.ex
  obtain ⟨has, data, links⟩ := x
  obtain ⟨has', data', links'⟩ := y
  have HS := Lib.hid (St.start (t := 25) (t' := 25) hx hy hB)
  obtain ⟨k0, k1, k2, l0, l1, l2, _, _, _, _, _⟩ := HS.out
  have hsm1 := small_of (x := ⟨has, data, links⟩)
  have hsm2 := small_of (x := ⟨has', data', links'⟩)
  have HSM1 := Lib.hid hsm1
  have HSM2 := Lib.hid hsm2
  clear hrest hrest' hx hy hsm1 hsm2
  go_enter Try.func4, Try.ntmps4
  cases hf1 : nodeFits ⟨has, data, links⟩
  · go_wp2_with (first | (go_at_call_of 5 (Value.agg #[.bool has, .slice A n c, .slice A2 n2 c2]); refine (fits20_any ⟨has, data, links⟩ _ B _ HS.out.x HS.out.hB).mono ?_; rw [hf1]; rintro e w2 ⟨rfl, hb⟩; have hS := HS.out.next hb; clear k0 k1 k2 l0 l1 l2 HS hb; have HS := Lib.hid hS; obtain ⟨k0, k1, k2, l0, l1, l2, _, _, _, _, _⟩ := hS) | fail)
    go_ret
    exact ⟨rfl, HS.out.below⟩
  cases hf2 : nodeFits ⟨has', data', links'⟩
  · go_wp2_with (first | (go_at_call_of 5 (Value.agg #[.bool has, .slice A n c, .slice A2 n2 c2]); refine (fits20_any ⟨has, data, links⟩ _ B _ HS.out.x HS.out.hB).mono ?_; rw [hf1]; rintro e w2 ⟨rfl, hb⟩; have hS := HS.out.next hb; clear k0 k1 k2 l0 l1 l2 HS hb; have HS := Lib.hid hS; obtain ⟨k0, k1, k2, l0, l1, l2, _, _, _, _, _⟩ := hS) | (go_at_call_of 5 (Value.agg #[.bool has', .slice A' n' c', .slice A2' n2' c2']); refine (fits20_any ⟨has', data', links'⟩ _ B _ HS.out.y HS.out.hB).mono ?_; rw [hf2]; rintro e w2 ⟨rfl, hb⟩; have hS := HS.out.next hb; clear k0 k1 k2 l0 l1 l2 HS hb; have HS := Lib.hid hS; obtain ⟨k0, k1, k2, l0, l1, l2, _, _, _, _, _⟩ := hS) | fail)
    go_ret
    exact ⟨rfl, HS.out.below⟩
  cases hs1 : nodeSmall ⟨has, data, links⟩
  · go_wp2_with (first | (go_at_call_of 5 (Value.agg #[.bool has, .slice A n c, .slice A2 n2 c2]); refine (fits20_any ⟨has, data, links⟩ _ B _ HS.out.x HS.out.hB).mono ?_; rw [hf1]; rintro e w2 ⟨rfl, hb⟩; have hS := HS.out.next hb; clear k0 k1 k2 l0 l1 l2 HS hb; have HS := Lib.hid hS; obtain ⟨k0, k1, k2, l0, l1, l2, _, _, _, _, _⟩ := hS) | (go_at_call_of 5 (Value.agg #[.bool has', .slice A' n' c', .slice A2' n2' c2']); refine (fits20_any ⟨has', data', links'⟩ _ B _ HS.out.y HS.out.hB).mono ?_; rw [hf2]; rintro e w2 ⟨rfl, hb⟩; have hS := HS.out.next hb; clear k0 k1 k2 l0 l1 l2 HS hb; have HS := Lib.hid hS; obtain ⟨k0, k1, k2, l0, l1, l2, _, _, _, _, _⟩ := hS) | (go_at_call_of 6 (Value.agg #[.bool has, .slice A n c, .slice A2 n2 c2]); refine (small_any ⟨has, data, links⟩ _ B _ HS.out.x HS.out.hB).mono ?_; rw [hs1]; rintro e w2 ⟨rfl, hb⟩; have hS := HS.out.next hb; clear k0 k1 k2 l0 l1 l2 HS hb; have HS := Lib.hid hS; obtain ⟨k0, k1, k2, l0, l1, l2, _, _, _, _, _⟩ := hS) | (go_at_call 7; refine (awake_any _).mono ?_; rintro e w2 ⟨rfl, hb⟩; have hS := HS.out.next hb; clear k0 k1 k2 l0 l1 l2 HS hb; have HS := Lib.hid hS; obtain ⟨k0, k1, k2, l0, l1, l2, _, _, _, _, _⟩ := hS) | fail)
    go_ret
    exact ⟨rfl, HS.out.below⟩
  cases hs2 : nodeSmall ⟨has', data', links'⟩
  · go_wp2_with (first | (go_at_call_of 5 (Value.agg #[.bool has, .slice A n c, .slice A2 n2 c2]); refine (fits20_any ⟨has, data, links⟩ _ B _ HS.out.x HS.out.hB).mono ?_; rw [hf1]; rintro e w2 ⟨rfl, hb⟩; have hS := HS.out.next hb; clear k0 k1 k2 l0 l1 l2 HS hb; have HS := Lib.hid hS; obtain ⟨k0, k1, k2, l0, l1, l2, _, _, _, _, _⟩ := hS) | (go_at_call_of 5 (Value.agg #[.bool has', .slice A' n' c', .slice A2' n2' c2']); refine (fits20_any ⟨has', data', links'⟩ _ B _ HS.out.y HS.out.hB).mono ?_; rw [hf2]; rintro e w2 ⟨rfl, hb⟩; have hS := HS.out.next hb; clear k0 k1 k2 l0 l1 l2 HS hb; have HS := Lib.hid hS; obtain ⟨k0, k1, k2, l0, l1, l2, _, _, _, _, _⟩ := hS) | (go_at_call_of 6 (Value.agg #[.bool has, .slice A n c, .slice A2 n2 c2]); refine (small_any ⟨has, data, links⟩ _ B _ HS.out.x HS.out.hB).mono ?_; rw [hs1]; rintro e w2 ⟨rfl, hb⟩; have hS := HS.out.next hb; clear k0 k1 k2 l0 l1 l2 HS hb; have HS := Lib.hid hS; obtain ⟨k0, k1, k2, l0, l1, l2, _, _, _, _, _⟩ := hS) | (go_at_call_of 6 (Value.agg #[.bool has', .slice A' n' c', .slice A2' n2' c2']); refine (small_any ⟨has', data', links'⟩ _ B _ HS.out.y HS.out.hB).mono ?_; rw [hs2]; rintro e w2 ⟨rfl, hb⟩; have hS := HS.out.next hb; clear k0 k1 k2 l0 l1 l2 HS hb; have HS := Lib.hid hS; obtain ⟨k0, k1, k2, l0, l1, l2, _, _, _, _, _⟩ := hS) | (go_at_call 7; refine (awake_any _).mono ?_; rintro e w2 ⟨rfl, hb⟩; have hS := HS.out.next hb; clear k0 k1 k2 l0 l1 l2 HS hb; have HS := Lib.hid hS; obtain ⟨k0, k1, k2, l0, l1, l2, _, _, _, _, _⟩ := hS) | fail)
    go_ret
    exact ⟨rfl, HS.out.below⟩
  have HSA := Lib.hid (HSM1.out hs1)
  have HSB := Lib.hid (HSM2.out hs2)
  have HLAW := Lib.hid (node_law ⟨has, data, links⟩ ⟨has', data', links'⟩)
  clear HSM1 HSM2
  go_wp2_with (first | (go_at_call_of 5 (Value.agg #[.bool has, .slice A n c, .slice A2 n2 c2]); refine (fits20_any ⟨has, data, links⟩ _ B _ HS.out.x HS.out.hB).mono ?_; rw [hf1]; rintro e w2 ⟨rfl, hb⟩; have hS := HS.out.next hb; clear k0 k1 k2 l0 l1 l2 HS hb; have HS := Lib.hid hS; obtain ⟨k0, k1, k2, l0, l1, l2, _, _, _, _, _⟩ := hS) | (go_at_call_of 5 (Value.agg #[.bool has', .slice A' n' c', .slice A2' n2' c2']); refine (fits20_any ⟨has', data', links'⟩ _ B _ HS.out.y HS.out.hB).mono ?_; rw [hf2]; rintro e w2 ⟨rfl, hb⟩; have hS := HS.out.next hb; clear k0 k1 k2 l0 l1 l2 HS hb; have HS := Lib.hid hS; obtain ⟨k0, k1, k2, l0, l1, l2, _, _, _, _, _⟩ := hS) | (go_at_call_of 6 (Value.agg #[.bool has, .slice A n c, .slice A2 n2 c2]); refine (small_any ⟨has, data, links⟩ _ B _ HS.out.x HS.out.hB).mono ?_; rw [hs1]; rintro e w2 ⟨rfl, hb⟩; have hS := HS.out.next hb; clear k0 k1 k2 l0 l1 l2 HS hb; have HS := Lib.hid hS; obtain ⟨k0, k1, k2, l0, l1, l2, _, _, _, _, _⟩ := hS) | (go_at_call_of 6 (Value.agg #[.bool has', .slice A' n' c', .slice A2' n2' c2']); refine (small_any ⟨has', data', links'⟩ _ B _ HS.out.y HS.out.hB).mono ?_; rw [hs2]; rintro e w2 ⟨rfl, hb⟩; have hS := HS.out.next hb; clear k0 k1 k2 l0 l1 l2 HS hb; have HS := Lib.hid hS; obtain ⟨k0, k1, k2, l0, l1, l2, _, _, _, _, _⟩ := hS) | fail)
  cases hr : sameNode (loose ⟨has, data, links⟩) (loose ⟨has', data', links'⟩)
  all_goals
    go_region_held3 (fun w' => w'.cell? ⟨w.heap.size, 0, none⟩ = some (.bool has) ∧ w'.cell? ⟨w.heap.size, 1, none⟩ = some (.slice A n c) ∧ w'.cell? ⟨w.heap.size, 2, none⟩ = some (.slice A2 n2 c2) ∧ w'.cell? ⟨w.heap.size + 1, 0, none⟩ = some (.bool has') ∧ w'.cell? ⟨w.heap.size + 1, 1, none⟩ = some (.slice A' n' c') ∧ w'.cell? ⟨w.heap.size + 1, 2, none⟩ = some (.slice A2' n2' c2')) (exact ⟨k0, k1, k2, l0, l1, l2⟩) (first | (go_at_call 12; refine (implSame_any _ _ _ _ B _ HS.out.drew.x HS.out.drew.y HS.out.hB HSA.out HSB.out).mono ?_; rw [HLAW.out, hr]; rintro e w5 ⟨rfl, hb⟩; have hS := HS.out.drew.next hb; clear k0 k1 k2 l0 l1 l2 HS hb; have HS := Lib.hid hS; obtain ⟨k0, k1, k2, l0, l1, l2, _, _, _, _, _⟩ := hS) | (go_at_call_of 11 (Value.agg #[.bool has, .slice A n c, .slice A2 n2 c2]); refine (loose_any _ _ B _ HS.out.x HS.out.hB HSA.out.k HSA.out.d HSA.out.h).mono ?_; rintro e w6 ⟨⟨v1, rfl, hn1⟩, hb⟩; have HN1 := Lib.hid hn1; clear hn1; have hS := HS.out.next hb; clear k0 k1 k2 l0 l1 l2 HS hb; have HS := Lib.hid hS; obtain ⟨k0, k1, k2, l0, l1, l2, _, _, _, _, _⟩ := hS) | (go_at_call_of 11 (Value.agg #[.bool has', .slice A' n' c', .slice A2' n2' c2']); refine (loose_any _ _ B _ HS.out.y HS.out.hB HSB.out.k HSB.out.d HSB.out.h).mono ?_; rintro e w7 ⟨⟨v2, rfl, hn2⟩, hb⟩; have HN2 := Lib.hid hn2; have HN3 := Lib.hid ((HN1.out.below hb).more hb.size); clear hn2; have hS := HS.out.next hb; clear k0 k1 k2 l0 l1 l2 HS hb; have HS := Lib.hid hS; obtain ⟨k0, k1, k2, l0, l1, l2, _, _, _, _, _⟩ := hS) | (go_at_call 13; refine (same_any _ _ _ _ _ _ HN3.out HN2.out (Nat.le_refl _) (by simpa [loose] using HSA.out.k)).mono ?_; rw [hr]; rintro e w8 ⟨rfl, hb⟩; have hS := HS.out.next hb; clear k0 k1 k2 l0 l1 l2 HS hb; have HS := Lib.hid hS; obtain ⟨k0, k1, k2, l0, l1, l2, _, _, _, _, _⟩ := hS) | (go_at_call 7; refine (awake_any _).mono ?_; rintro e w9 ⟨rfl, hb⟩; have hS := HS.out.next hb; clear k0 k1 k2 l0 l1 l2 HS hb; have HS := Lib.hid hS; obtain ⟨k0, k1, k2, l0, l1, l2, _, _, _, _, _⟩ := hS) | fail)
  all_goals
    go_wp2
    go_ret
    exact ⟨rfl, HS.out.below⟩
theorem equal_row (x : PNd) (v : Value) (y : PNd) (v' : Value) (w : World) (hx : NodeArg w w.heap.size x v) (hy : NodeArg w w.heap.size y v') : Calls Try.prog 4 #[v, v'] w (Ans w true) := equal_any x y v v' _ w hx hy (Nat.le_refl _)
end Go.Proofs.Ythgbhaackihbjaa
