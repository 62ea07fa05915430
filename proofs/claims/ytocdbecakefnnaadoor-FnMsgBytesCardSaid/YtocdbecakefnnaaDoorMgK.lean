/- spec.msgFlag, spec.msgCounted. -/
import Derived.Test.YtocdbecakefnnaaDoorMgJ
namespace Go.Proofs.YtocdbecakefnnaaDoor
open Go.RowKit

theorem fresh_nil (w : World) : w.ownsRow w.heap.size 5 1 (.slice none 0 0) ([] : List UInt8).length (u8s []) := ⟨rfl, .inl ⟨rfl, rfl⟩⟩
set_option maxRecDepth 100000 in
theorem flag_any (key : UInt8) (b : Bool) (w : World) : Calls Tryd.prog 25 #[.int .u8 (key.toNat : Int), .bool b] w (Fresh w (flagB key b)) := by
  have HO := Lib.hid (own_lit w 5 (u8s [key, 1]) (by simp [maxLen, u8s]))
  cases b with
  | false =>
    go_enter Tryd.func25, Tryd.ntmps25
    go_wp2
    go_ret
    exact ⟨⟨_, rfl, fresh_nil w⟩, Below.refl _ _⟩
  | true =>
    go_enter Tryd.func25, Tryd.ntmps25
    go_wp2
    go_ret
    exact ⟨⟨_, rfl, HO.out⟩, below_one w _⟩
set_option maxRecDepth 100000 in
theorem counted_any (key : UInt8) (z : Int) (w : World) : Calls Tryd.prog 27 #[.int .u8 (key.toNat : Int), .int .i64 z] w (Fresh w (numB key z)) := by
  obtain ⟨i0, hi, hz0, hz1, hz2⟩ := info_parts infoU8w
  by_cases hz : z = 0
  · subst hz
    go_enter Tryd.func27, Tryd.ntmps27
    go_wp2
    go_ret
    exact ⟨⟨_, rfl, fresh_nil w⟩, Below.refl _ _⟩
  · have hw := u64z_wrap z
    have hlt := u64z_lt z
    have e0 : numB key z = key :: uv (u64z z) := numB_some _ hz
    generalize u64z z = y at hw hlt e0
    have hu := uv_le y hlt
    rw [e0]
    have HO := Lib.hid (own_lit w 5 (u8s [key]) (by simp [maxLen, u8s]))
    go_enter Tryd.func27, Tryd.ntmps27
    go_wp2_with (first | (go_at_call 48; go_must (refine (varint_any y _ hlt).mono ?_; rintro e w2 ⟨⟨v2, rfl, ho2⟩, hb2⟩; obtain ⟨A2, c2, rfl, _, hr2⟩ := own_shape ho2; have HR2 := Lib.hid hr2; have HO1 := Lib.hid (own_below HO.out hb2); have f2 : Below w.heap.size w w2 := below_then (below_one _ _) (by simp) hb2; clear ho2 hr2 hb2)) | (at_builtin; refine wpList_append_any _ rfl (.tmp 8) (.tmp 11) 32 rfl w.heap.size 5 i0 (.int .u8 0) 1 1 Tryd.underlying32 hi hz0 hz1 hz2 rfl (by decide) _ 1 _ rfl HO1.out w2.heap.size A2 (uv y).length c2 _ rfl HR2.out (u8s_one _) (by unfold maxLen; omega) (by omega) f2.size ?_; rintro v3 w3 hown3 hg3 _ _; have HO3 := Lib.hid hown3; have F3 := Lib.hid (f2.grown hg3 f2.size (own_base HO1.out)); clear hown3 hg3) | fail)
    go_ret
    have h := HO3.out
    have e1 : u8s [key] ++ u8s (uv y) = u8s (key :: uv y) := by rw [← u8s_append]; rfl
    have e2 : 1 + (uv y).length = (key :: uv y).length := by simp; omega
    rw [e1, e2] at h
    exact ⟨⟨_, rfl, h⟩, F3.out⟩
end Go.Proofs.YtocdbecakefnnaaDoor
