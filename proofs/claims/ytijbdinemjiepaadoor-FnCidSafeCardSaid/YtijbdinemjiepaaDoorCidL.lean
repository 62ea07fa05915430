/- The law's live call: three identifiers. -/
import Derived.Test.YtijbdinemjiepaaDoorCidK
namespace Go.Proofs.YtijbdinemjiepaaDoor
open Go.RowKit

def zeros (n : Nat) : List UInt8 := List.replicate n 0
theorem own_lit (W : World) (e : TypeId) (cs : List Value) (hm : cs.length ≤ maxLen) : (W.alloc (.cells cs.toArray e)).ownsRow W.heap.size e 1 (.slice (some ⟨W.heap.size, 0, none⟩) cs.length cs.length) cs.length cs := by
  have h := (Blk.new W e cs.toArray).own W.heap.size cs.length cs.length (Nat.le_refl _) (Nat.le_refl _) hm (by simp)
  simpa using h
set_option maxRecDepth 100000 in
set_option maxHeartbeats 2000000 in
theorem key_any (w : World) : Calls Tryd.prog 42 #[.agg #[.int .u8 0, .int .u8 0, .int .u8 0, .int .u8 0, .int .u8 0, .int .u8 0, .int .u8 0, .int .u8 0, .int .u8 0, .int .u8 0, .int .u8 0, .int .u8 0, .int .u8 0, .int .u8 0, .int .u8 0, .int .u8 0, .int .u8 0, .int .u8 0, .int .u8 0, .int .u8 0, .int .u8 0, .int .u8 0, .int .u8 0, .int .u8 0, .int .u8 0, .int .u8 0, .int .u8 0, .int .u8 0, .int .u8 0, .int .u8 0, .int .u8 0, .int .u8 0]] w (Owns w 5 1 34 (u8s (18 :: 32 :: zeros 32))) := by
  obtain ⟨i0, hi, hz0, hz1, hz2⟩ := info_parts infoU8
  have hb := below_one w (.cells #[.int .u8 0, .int .u8 0, .int .u8 0, .int .u8 0, .int .u8 0, .int .u8 0, .int .u8 0, .int .u8 0, .int .u8 0, .int .u8 0, .int .u8 0, .int .u8 0, .int .u8 0, .int .u8 0, .int .u8 0, .int .u8 0, .int .u8 0, .int .u8 0, .int .u8 0, .int .u8 0, .int .u8 0, .int .u8 0, .int .u8 0, .int .u8 0, .int .u8 0, .int .u8 0, .int .u8 0, .int .u8 0, .int .u8 0, .int .u8 0, .int .u8 0, .int .u8 0] 99)
  have hown := own_lit (w.alloc (.cells #[.int .u8 0, .int .u8 0, .int .u8 0, .int .u8 0, .int .u8 0, .int .u8 0, .int .u8 0, .int .u8 0, .int .u8 0, .int .u8 0, .int .u8 0, .int .u8 0, .int .u8 0, .int .u8 0, .int .u8 0, .int .u8 0, .int .u8 0, .int .u8 0, .int .u8 0, .int .u8 0, .int .u8 0, .int .u8 0, .int .u8 0, .int .u8 0, .int .u8 0, .int .u8 0, .int .u8 0, .int .u8 0, .int .u8 0, .int .u8 0, .int .u8 0, .int .u8 0] 99)) 5 (u8s [18, 32]) (by decide)
  have hrd := (reads_lit w 99 (u8s (zeros 32))).alloc (by simp) (.cells (u8s [18, 32]).toArray 5)
  rw [World.size_alloc] at hown
  have HO := Lib.hid hown
  have HR := Lib.hid hrd
  have HB := Lib.hid hb
  clear hown hrd hb
  go_enter Tryd.func42, Tryd.ntmps42
  go_wp2_with (first | (at_builtin; refine wpList_append_any _ rfl (.tmp 3) (.tmp 4) 30 rfl (w.heap.size + 1) 5 i0 _ 1 1 Tryd.underlying30 hi hz0 hz1 hz2 rfl (by decide) (.slice (some ⟨w.heap.size + 1, 0, none⟩) 2 2) 2 (u8s [18, 32]) rfl HO.out (w.heap.size + 1) (some ⟨w.heap.size, 0, none⟩) 32 32 (u8s (zeros 32)) rfl HR.out (u8s_one _) (by unfold maxLen; omega) (by omega) (by simp) ?_; rintro v3 w3 hown3 hg3 _ _; have HO3 := Lib.hid hown3; have HB3 := Lib.hid ((below_alloc HB.out _).grown hg3 (by simp; omega) (fun k hk => by have := own_base HO.out k hk; omega)); clear hown3 hg3) | fail)
  go_ret
  exact ⟨⟨_, rfl, own_more HO3.out (by omega)⟩, HB3.out⟩
theorem live_bytes : cidBytes 112 18 (zeros 32) = [1, 112] ++ (18 :: 32 :: zeros 32) := by
  show 1 :: 112 :: (uv 18 ++ (uv (zeros 32).length ++ zeros 32)) = _
  rw [show (zeros 32).length = 32 from rfl, uv_small (show 18 < 128 by omega), uv_small (show 32 < 128 by omega)]
  rfl
set_option maxRecDepth 100000 in
set_option maxHeartbeats 2000000 in
theorem ident_any (w : World) : Calls Tryd.prog 21 #[.int .u8 1] w (Owns w 5 1 36 (u8s (cidBytes 112 18 (zeros 32)))) := by
  obtain ⟨i0, hi, hz0, hz1, hz2⟩ := info_parts infoU8
  rw [live_bytes]
  go_enter Tryd.func21, Tryd.ntmps21
  go_wp2_with (first | (refine wpList_load_row rfl 99 (.tmp 3) rfl w.heap.size rfl 99 _ _ _ (heap_alloc_new w _) Tryd.underlying99 rfl (by kernel_rfl) ?_) | (go_at_call 42; refine (key_any _).mono ?_; rintro e w2 ⟨⟨v2, rfl, ho2⟩, hb2⟩; obtain ⟨A2, c2, rfl, _, hr2⟩ := own_shape ho2; have hown := own_lit (w2.alloc (.cells (u8s [112, 85]).toArray 5)) 5 (u8s [1, 112]) (by decide); rw [World.size_alloc] at hown; have HO := Lib.hid hown; have HR := Lib.hid ((hr2.alloc (Nat.le_refl _) (.cells (u8s [112, 85]).toArray 5)).alloc (by simp) (.cells (u8s [1, 112]).toArray 5)); have HB2 := Lib.hid (below_then (below_one w _) (by simp) hb2); clear ho2 hr2 hown hb2) | (at_builtin; refine wpList_append_any _ rfl (.tmp 19) (.tmp 20) 30 rfl (w2.heap.size + 1) 5 i0 _ 1 1 Tryd.underlying30 hi hz0 hz1 hz2 rfl (by decide) (.slice (some ⟨w2.heap.size + 1, 0, none⟩) 2 2) 2 (u8s [1, 112]) rfl HO.out w2.heap.size A2 34 c2 (u8s (18 :: 32 :: zeros 32)) rfl HR.out (u8s_one _) (by unfold maxLen; omega) (by omega) (by simp) ?_; rintro v3 w3 hown3 hg3 _ _; have HO3 := Lib.hid hown3; have HB3 := Lib.hid ((below_alloc (below_alloc HB2.out _) _).grown hg3 (by have := HB2.out.size; simp; omega) (fun k hk => by have := own_base HO.out k hk; have := HB2.out.size; omega)); clear hown3 hg3) | fail)
  go_ret
  have h := own_more HO3.out (base' := w.heap.size) (by have := HB2.out.size; omega)
  rw [← u8s_append] at h
  exact ⟨⟨_, rfl, h⟩, HB3.out⟩
end Go.Proofs.YtijbdinemjiepaaDoor
