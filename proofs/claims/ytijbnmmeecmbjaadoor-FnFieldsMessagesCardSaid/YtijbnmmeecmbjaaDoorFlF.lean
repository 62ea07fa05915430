/- Contracts of spec.pbField and spec.pbNumber: the bytes of a field, for every number of a field up to 15. -/
import Derived.Test.YtijbnmmeecmbjaaDoorFlV
namespace Go.Proofs.YtijbnmmeecmbjaaDoor
open Go.RowKit

theorem key2 (k : Nat) (hk : k ≤ 15) : bits .or .u8 ((k : Int) * 8) 2 = ((8 * k + 2 : Nat) : Int) := by
  have h : bits .or .u8 ((8 * k : Nat) : Int) 2 = ((8 * k ||| 2 : Nat) : Int) := u8_or_nat _ 2 (by omega) (by omega)
  rw [show ((k : Int) * 8) = ((8 * k : Nat) : Int) by omega, h, nat_join 3 (8 * k) 2 (by omega) (by omega)]
theorem own_lit (W : World) (e : TypeId) (cs : List Value) (hm : cs.length ≤ maxLen) : (W.alloc (.cells cs.toArray e)).ownsRow W.heap.size e 1 (.slice (some ⟨W.heap.size, 0, none⟩) cs.length cs.length) cs.length cs := by
  have h := (Blk.new W e cs.toArray).own W.heap.size cs.length cs.length (Nat.le_refl _) (Nat.le_refl _) hm (by simp)
  simpa using h

set_option maxRecDepth 100000 in
theorem pbField_any (k : Nat) (A : Option Addr) (n c B : Nat) (b : List UInt8) (w : World) (hk : k ≤ 15) (hr : Reads w B 1 A n (u8s b)) (hB : B ≤ w.heap.size) (hn : n ≤ 17592186044416) :
    Calls Tryd.prog 35 #[.int .u8 k, .slice A n c] w (Owns w 5 1 (fieldB (UInt8.ofNat (8 * k + 2)) b).length (u8s (fieldB (UInt8.ofNat (8 * k + 2)) b))) := by
  obtain ⟨i0, hi, hz0, hz1, hz2⟩ := info_parts infoU8v
  have hbn : b.length = n := by have := hr.1; simp only [u8s_length, Nat.mul_one] at this; exact this
  have k2 := key2 k hk
  have e3 := u8s_num (8 * k + 2) (by omega)
  generalize UInt8.ofNat (8 * k + 2) = key at e3 ⊢
  generalize 8 * k + 2 = K at k2 e3
  have own0 : Hid ((w.alloc (.cells #[.int .u8 (K : Int)] 5)).ownsRow w.heap.size 5 1 (.slice (some ⟨w.heap.size, 0, none⟩) 1 1) 1 (u8s [key])) := by
    rw [e3]; exact own_lit w 5 [.int .u8 (K : Int)] (by simp [maxLen])
  have hl10 := uv_le n (by omega)
  have HBN := Lib.hid hbn
  have HR := Lib.hid hr
  clear hbn hr e3
  go_enter Tryd.func35, Tryd.ntmps35
  go_wp2_with fail
  refine (uvarint_any _ _ (by omega)).mono ?_
  rintro e w2 ⟨⟨v2, rfl, ho2⟩, hb2⟩
  generalize hu : uv n = u at ho2 hl10
  have HU := Lib.hid hu
  obtain ⟨A2, c2, rfl, _, hr2⟩ := own_shape ho2
  have HR2 := Lib.hid hr2
  have own1 := Lib.hid (own_below own0.out hb2)
  clear ho2 hr2 hu
  generalize hul : u.length = m at hl10 HR2
  have HUL := Lib.hid hul
  clear hul
  have b1 : 1 + m ≤ maxLen := by unfold maxLen; omega
  have b2 : (1 + m) * 1 ≤ 140737488355328 := by omega
  have f2 : Below w.heap.size w w2 := below_then (below_one _ _) (by simp) hb2
  have b3 := f2.size
  have o1 := u8s_one u
  have ob := u8s_one b
  have d1 : 1 + m + n ≤ maxLen := by unfold maxLen; omega
  have d2 : (1 + m + n) * 1 ≤ 140737488355328 := by omega
  go_wp2_with (first | (at_builtin; refine wpList_append_any _ rfl (.tmp 8) (.tmp 12) 22 rfl w.heap.size 5 i0 (.int .u8 0) 1 1 Tryd.underlying22 hi hz0 hz1 hz2 rfl (by decide) _ 1 _ rfl own1.out w2.heap.size A2 m c2 _ rfl HR2.out o1 b1 b2 b3 ?_; rintro v3 w3 hown3 hg3 _ _; have HO3 := Lib.hid hown3; have HF := Lib.hid (((HR.out.more hB).below f2).grown hg3 b3 (own_base own1.out)); have f3 := f2.grown hg3 b3 (own_base own1.out); have b3' := f3.size; clear hown3) | (at_builtin; refine wpList_append_any _ rfl (.tmp 13) (.tmp 14) 22 rfl w.heap.size 5 i0 (.int .u8 0) 1 1 Tryd.underlying22 hi hz0 hz1 hz2 rfl (by decide) _ (1 + m) _ rfl HO3.out w.heap.size A n c _ rfl HF.out ob d1 d2 b3' ?_; rintro v4 w4 hown4 hg4 _ _; have HO4 := Lib.hid hown4; clear hown4))
  go_ret
  have h := HO4.out
  have e1 : u8s [key] ++ u8s u ++ u8s b = u8s (fieldB key b) := by rw [fieldB, HBN.out, HU.out, ← u8s_append, ← u8s_append]; simp
  have e2 : 1 + m + n = (fieldB key b).length := by rw [fieldB, HBN.out, HU.out]; simp [HUL.out, HBN.out]; omega
  rw [e1, e2] at h
  exact ⟨⟨_, rfl, h⟩, f3.grown hg4 b3' (own_base HO3.out)⟩

set_option maxRecDepth 100000 in
theorem pbNumber_any (k v : Nat) (w : World) (hk : k ≤ 15) (hv : v < 18446744073709551616) :
    Calls Tryd.prog 34 #[.int .u8 k, .int .u64 v] w (Owns w 5 1 (fieldN (UInt8.ofNat (8 * k)) v).length (u8s (fieldN (UInt8.ofNat (8 * k)) v))) := by
  obtain ⟨i0, hi, hz0, hz1, hz2⟩ := info_parts infoU8v
  have e3 := u8s_num (8 * k) (by omega)
  have k2 : (k : Int) * 8 = ((8 * k : Nat) : Int) := by omega
  generalize UInt8.ofNat (8 * k) = key at e3 ⊢
  generalize 8 * k = K at e3 k2
  have own0 : Hid ((w.alloc (.cells #[.int .u8 (K : Int)] 5)).ownsRow w.heap.size 5 1 (.slice (some ⟨w.heap.size, 0, none⟩) 1 1) 1 (u8s [key])) := by
    rw [e3]; exact own_lit w 5 [.int .u8 (K : Int)] (by simp [maxLen])
  have hl10 := uv_le v hv
  have HV := Lib.hid hv
  clear e3 hv
  go_enter Tryd.func34, Tryd.ntmps34
  go_wp2_with fail
  refine (uvarint_any _ _ HV.out).mono ?_
  rintro e w2 ⟨⟨v2, rfl, ho2⟩, hb2⟩
  generalize hu : uv v = u at ho2 hl10
  have HU := Lib.hid hu
  obtain ⟨A2, c2, rfl, _, hr2⟩ := own_shape ho2
  have HR2 := Lib.hid hr2
  have own1 := Lib.hid (own_below own0.out hb2)
  clear ho2 hr2 hu
  generalize hul : u.length = m at hl10 HR2
  have HUL := Lib.hid hul
  clear hul
  have b1 : 1 + m ≤ maxLen := by unfold maxLen; omega
  have b2 : (1 + m) * 1 ≤ 140737488355328 := by omega
  have f2 : Below w.heap.size w w2 := below_then (below_one _ _) (by simp) hb2
  have b3 := f2.size
  have o1 := u8s_one u
  go_wp2_with (at_builtin; refine wpList_append_any _ rfl (.tmp 7) (.tmp 9) 22 rfl w.heap.size 5 i0 (.int .u8 0) 1 1 Tryd.underlying22 hi hz0 hz1 hz2 rfl (by decide) _ 1 _ rfl own1.out w2.heap.size A2 m c2 _ rfl HR2.out o1 b1 b2 b3 ?_; rintro v3 w3 hown3 hg3 _ _; have HO3 := Lib.hid hown3; clear hown3)
  go_ret
  have h := HO3.out
  have e1 : u8s [key] ++ u8s u = u8s (fieldN key v) := by rw [fieldN, HU.out, ← u8s_append]; simp
  have e2 : 1 + m = (fieldN key v).length := by rw [fieldN, HU.out]; simp [HUL.out]; omega
  rw [e1, e2] at h
  exact ⟨⟨_, rfl, h⟩, f2.grown hg3 b3 (own_base own1.out)⟩
end Go.Proofs.YtijbnmmeecmbjaaDoor
