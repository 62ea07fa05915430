/- The law FnCidSafe: whatever the numbers, the call returns true. -/
import Derived.Test.YtijbdinemjiepaaDoorCidL
namespace Go.Proofs.YtijbdinemjiepaaDoor
open Go.RowKit

theorem e24 : cidBytes 85 24 [] = [1, 85, 24, 0] := by
  show 1 :: 85 :: (uv 24 ++ (uv 0 ++ [])) = _
  rw [uv_small (show 24 < 128 by omega), uv_small (show 0 < 128 by omega)]
  rfl
theorem e18 : cidBytes 85 18 [7] = [1, 85, 18, 1, 7] := by
  show 1 :: 85 :: (uv 18 ++ (uv 1 ++ [7])) = _
  rw [uv_small (show 18 < 128 by omega), uv_small (show 1 < 128 by omega)]
  rfl
set_option maxRecDepth 100000 in
set_option maxHeartbeats 2000000 in
theorem live_any (a1 a2 a3 : Addr) (w : World) (he : Errs w a1 a2 a3) : Calls Tryd.prog 18 #[] w (Ans w true) := by
  have HE := Lib.hid he
  have M2 : Hid True := trivial
  have s1 : safeN 18 (zeros 32).length = 0 := by decide
  have s2 : safeN 24 ([] : List UInt8).length = 1 := by decide
  have s3 : safeN 18 ([7] : List UInt8).length = 2 := by decide
  have S1 := Lib.hid s1
  have S2 := Lib.hid s2
  have S3 := Lib.hid s3
  clear he s1 s2 s3
  go_enter Tryd.func18, Tryd.ntmps18
  go_wp2_with (first | (go_at_call 21; refine (ident_any _).mono ?_; rintro e w1 ⟨⟨v1, rfl, ho1⟩, hb1⟩; obtain ⟨A1, c1, rfl, _, hr1⟩ := own_shape ho1; obtain ⟨b, o, rfl, _, _⟩ := hr1.lit (k := 0) (by omega); have HR1 := Lib.hid hr1; have HE1 := Lib.hid (HE.out.below hb1); have HB1 := Lib.hid hb1; clear ho1 hr1 hb1) | (go_at_call 16; refine (implSafe_any 112 18 (zeros 32) _ 36 c1 _ a1 a2 a3 _ rfl (by decide) (by omega) (by decide) HR1.out (by omega) (Nat.le_refl _) HE1.out).mono ?_; clear HR1; rw [S1.out]; rintro e w2 ⟨rfl, hb2⟩; have HE2 := Lib.hid ((HE1.out.below hb2).below (below_one w2 (.cells (u8s [1, 85, 24, 0]).toArray 5))); have HB2 := Lib.hid (below_then HB1.out HB1.out.size hb2); clear hb2) | (go_at_call 16; clear M2; refine (implSafe_any 85 24 [] _ 4 4 (w2.heap.size + 1) a1 a2 a3 _ rfl (by decide) (by omega) (by decide) (by rw [e24]; exact reads_lit w2 5 (u8s [1, 85, 24, 0])) (by omega) (by simp) HE2.out).mono ?_; rw [S2.out]; rintro e w3 ⟨rfl, hb3⟩; have HE3 := Lib.hid ((HE2.out.below hb3).below (below_one w3 (.cells (u8s [1, 85, 18, 1, 7]).toArray 5))); have f2 := below_alloc HB2.out (.cells (u8s [1, 85, 24, 0]).toArray 5); have HB3 := Lib.hid (below_then f2 f2.size hb3); clear hb3 f2) | (go_at_call 16; refine (implSafe_any 85 18 [7] _ 5 5 (w3.heap.size + 1) a1 a2 a3 _ rfl (by decide) (by omega) (by decide) (by rw [e18]; exact reads_lit w3 5 (u8s [1, 85, 18, 1, 7])) (by omega) (by simp) HE3.out).mono ?_; rw [S3.out]; rintro e w4 ⟨rfl, hb4⟩; have f3 := below_alloc HB3.out (.cells (u8s [1, 85, 18, 1, 7]).toArray 5); have HB4 := Lib.hid (below_then f3 f3.size hb4); clear hb4 f3) | fail)
  go_ret
  exact ⟨rfl, HB4.out⟩
end Go.Proofs.YtijbdinemjiepaaDoor
