/- The law FnPbWrite: whatever the message, the call returns true. -/
import Derived.Test.YthgbhaackihbjaaPbR
namespace Go.Proofs.Ythgbhaackihbjaa
open Go.RowKit

theorem node_cells {w w2 : World} {a b c : Value} {t : TypeId} (hb : Below (w.alloc (.cells #[a, b, c] t)).heap.size (w.alloc (.cells #[a, b, c] t)) w2) :
    w2.cell? ⟨w.heap.size, 0, none⟩ = some a ∧ w2.cell? ⟨w.heap.size, 1, none⟩ = some b ∧ w2.cell? ⟨w.heap.size, 2, none⟩ = some c :=
  ⟨(hb.cell (p := ⟨w.heap.size, 0, none⟩) (by simp)).trans (by simp [World.cell?_alloc_new]), (hb.cell (p := ⟨w.heap.size, 1, none⟩) (by simp)).trans (by simp [World.cell?_alloc_new]), (hb.cell (p := ⟨w.heap.size, 2, none⟩) (by simp)).trans (by simp [World.cell?_alloc_new])⟩
set_option maxRecDepth 100000 in
set_option maxHeartbeats 1000000 in
theorem write_any (x : PNd) (v : Value) (B : Nat) (w : World) (hx : NodeArg w B x v) (hB : B ≤ w.heap.size) : Calls Try.prog 3 #[v] w (Ans w true) := by
  obtain ⟨A, n, c, A2, n2, c2, rfl, hrest⟩ := hx.ex
  obtain ⟨has, data, links⟩ := x
  have hbw := below_one w (.cells #[.bool has, .slice A n c, .slice A2 n2 c2] 25)
  have hx1 := hx.below (hbw.mono hB)
  have HB := Lib.hid hbw
  have HX := Lib.hid hx1
  have hz1 : B ≤ (w.alloc (.cells #[.bool has, .slice A n c, .slice A2 n2 c2] 25)).heap.size := by simp; omega
  have HZ := Lib.hid hz1
  clear hx hrest hbw hx1 hz1
  go_enter Try.func3, Try.ntmps3
  go_wp2_with (go_at_call 5; refine (fits20_any ⟨has, data, links⟩ _ B _ HX.out HZ.out).mono ?_; rintro e w2 ⟨rfl, hb2⟩; cases hfit : nodeFits ⟨has, data, links⟩; all_goals (obtain ⟨c0, c1, c2'⟩ := node_cells hb2; have HB2 := Lib.hid hb2; clear hb2))
  · go_ret
    exact ⟨rfl, below_then HB.out (by simp) HB2.out⟩
  have HX2 := Lib.hid (HX.out.below (HB2.out.mono HZ.out))
  have HZ2 := Lib.hid (Nat.le_trans HZ.out HB2.out.size)
  have HBB := Lib.hid (below_then HB.out (by simp) HB2.out)
  have HSM : nodeSmall ⟨has, data, links⟩ = true → Hid (Small ⟨has, data, links⟩) := fun h => small_of h
  have hz3 : w.heap.size < w2.heap.size := by have h := HB2.out.size; simp at h; omega
  clear hfit HX HZ HB HB2
  refine (small_any ⟨has, data, links⟩ _ B _ HX2.out HZ2.out).mono ?_
  rintro e w3 ⟨rfl, hb3⟩
  cases hsm : nodeSmall ⟨has, data, links⟩
  · have HF := Lib.hid (below_then HBB.out HBB.out.size hb3)
    clear hb3 hsm HSM c0 c1 c2'
    go_wp2_with (go_at_call 7; refine (awake_any _).mono ?_; rintro e w4 ⟨rfl, hb4⟩; have HF4 := Lib.hid (below_then HF.out HF.out.size hb4); clear hb4)
    go_ret
    exact ⟨rfl, HF4.out⟩
  have hs := (HSM hsm).out
  have HS := Lib.hid hs
  clear hsm HSM hs
  have d0 : w3.cell? ⟨w.heap.size, 0, none⟩ = some (.bool has) := (hb3.cell (p := ⟨w.heap.size, 0, none⟩) hz3).trans c0
  have d1 : w3.cell? ⟨w.heap.size, 1, none⟩ = some (.slice A n c) := (hb3.cell (p := ⟨w.heap.size, 1, none⟩) hz3).trans c1
  have d2 : w3.cell? ⟨w.heap.size, 2, none⟩ = some (.slice A2 n2 c2) := (hb3.cell (p := ⟨w.heap.size, 2, none⟩) hz3).trans c2'
  have HF := Lib.hid (below_then HBB.out HBB.out.size hb3)
  have HX3 := Lib.hid (HX2.out.below (hb3.mono HZ2.out))
  have HZ3 := Lib.hid (Nat.le_trans HZ2.out hb3.size)
  have hz4 : w.heap.size < w3.heap.size := Nat.lt_of_lt_of_le hz3 hb3.size
  clear c0 c1 c2' HX2 HZ2 HBB hb3 hz3
  go_wp2_with (first | (go_at_call 8; refine (encoded_any _ _ B _ HX3.out HZ3.out HS.out).mono ?_; rintro e w4 ⟨vb, rfl, ⟨g, cc, rfl, hlc, hlo, hr4⟩, hb4⟩; have g0 : w4.cell? ⟨w.heap.size, 0, none⟩ = some (.bool has) := (hb4.cell (p := ⟨w.heap.size, 0, none⟩) hz4).trans d0; have g1 : w4.cell? ⟨w.heap.size, 1, none⟩ = some (.slice A n c) := (hb4.cell (p := ⟨w.heap.size, 1, none⟩) hz4).trans d1; have g2 : w4.cell? ⟨w.heap.size, 2, none⟩ = some (.slice A2 n2 c2) := (hb4.cell (p := ⟨w.heap.size, 2, none⟩) hz4).trans d2; have HR4 := Lib.hid hr4; have HB4 := Lib.hid hb4; have HX4 := Lib.hid (HX3.out.below (hb4.mono HZ3.out)); have HZ4 := Lib.hid (Nat.le_trans HZ3.out hb4.size); clear hr4 hb4) | (go_at_call 10; refine (specBytes_any _ _ B _ HX4.out HZ4.out HS.out).mono ?_; rintro e w5 ⟨⟨v5, rfl, ho5⟩, hb5⟩; obtain ⟨A5, d5, rfl, _, _⟩ := own_shape ho5; have HR5 := Lib.hid (Reads.of_own ho5); have HB5 := Lib.hid hb5; clear ho5 hb5) | (go_at_call 9; refine (sameBytes_any _ _ _ _ _ _ _ _ _ _ _ (HR4.out.below HB5.out) HR5.out).mono ?_; rintro e w6 ⟨rfl, rfl⟩) | (go_at_call 7; refine (awake_any _).mono ?_; rintro e w7 ⟨rfl, hb7⟩; have HB7 := Lib.hid hb7; clear hb7) | fail)
  go_ret
  have f4 := below_then HF.out HF.out.size HB4.out
  have f5 := below_then f4 f4.size HB5.out
  exact ⟨rfl, below_then f5 f5.size HB7.out⟩
end Go.Proofs.Ythgbhaackihbjaa
