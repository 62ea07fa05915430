/- murmur3: Sum128, tails of 0 to 8 bytes. -/
import Derived.Test.YtodffcoeimcdaaaMmG
namespace Go.Proofs.Ytodffcoeimcdaaa
open Go.RowKit Go.Lib

set_option maxRecDepth 100000 in
set_option maxHeartbeats 8000000 in
theorem sum_0 (g n h k : Nat) (bs : List Value) (w : World) (d : Dig w g n (.slice (some ⟨g, 2, none⟩) 0 16) bs h k) (hn : n ≤ 5000) (lh : h < 18446744073709551616) (lk : k < 18446744073709551616) :
    Calls Try.prog 36 #[.pointer (some ⟨g, 0, none⟩)] w fun e w' => (∃ v, e = .returned (.tuple #[.int .u64 ((lastN (tailH h []) (tailK k []) n : Nat) : Int), v])) ∧ ∃ k, w' = w.drewN k := by
  have k0 := d.c0
  have k1 := d.c1
  have k20 := d.c20
  have k21 := d.c21
  have ln : n < 18446744073709551616 := by omega
  have en : IntKind.u64.wrap (n : Int) = (n : Int) := by rw [IntKind.wrap_u64]; omega
  have e15 : bits .and .i64 0 15 = 0 := and15 0 (by omega)
  clear d
  obtain ⟨c1', qc1'⟩ : ∃ z, h ^^^ n = z := ⟨_, rfl⟩
  have lc1' : c1' < 18446744073709551616 := by rw [← qc1']; exact xor_lt lh ln
  have ec1' := xorI lh ln qc1'
  have Qc1' := Lib.hid qc1'
  obtain ⟨c2', qc2'⟩ : ∃ z, k ^^^ n = z := ⟨_, rfl⟩
  have lc2' : c2' < 18446744073709551616 := by rw [← qc2']; exact xor_lt lk ln
  have ec2' := xorI lk ln qc2'
  have Qc2' := Lib.hid qc2'
  obtain ⟨c3', qc3'⟩ : ∃ z, addN c1' c2' = z := ⟨_, rfl⟩
  have lc3' : c3' < 18446744073709551616 := by rw [← qc3']; exact addN_lt _ _
  have ec3' := addI qc3'
  have Qc3' := Lib.hid qc3'
  obtain ⟨c4', qc4'⟩ : ∃ z, addN c2' c3' = z := ⟨_, rfl⟩
  have lc4' : c4' < 18446744073709551616 := by rw [← qc4']; exact addN_lt _ _
  have ec4' := addI qc4'
  have Qc4' := Lib.hid qc4'
  obtain ⟨d1', qd1'⟩ : ∃ z, mixN c3' = z := ⟨_, rfl⟩
  have Qd1' := Lib.hid qd1'
  obtain ⟨d2', qd2'⟩ : ∃ z, mixN c4' = z := ⟨_, rfl⟩
  have Qd2' := Lib.hid qd2'
  obtain ⟨c5', qc5'⟩ : ∃ z, addN d1' d2' = z := ⟨_, rfl⟩
  have ec5' := addI qc5'
  obtain ⟨c6', qc6'⟩ : ∃ z, addN d2' c5' = z := ⟨_, rfl⟩
  have ec6' := addI qc6'
  have HEND : Hid (lastN (tailH h []) (tailK k []) n = c5') := by
    show _ = _
    rw [show tailK k [] = k from rfl]
    rw [show tailH h [] = h from rfl]
    rw [lastN, qc1', qc2', qc3', qc4', qd1', qd2', qc5']
  have Mc1' := Lib.hid lc1'
  have Mc2' := Lib.hid lc2'
  have Mc3' := Lib.hid lc3'
  have Mc4' := Lib.hid lc4'
  clear qc1' qc2' qc3' qc4' lc1' lc2' lc3' lc4' qd1' qd2' qc5' qc6' lh lk ln
  go_enter Try.func36, Try.ntmps36
  go_wp2_with fail
  go_quiet (fail)
  go_upto_block 1 with fail
  apply wp_block
  apply exit_cut 0
  case h1 =>
    go_wp2
    exact ⟨rfl, rfl⟩
  (repeat first | refine inBlock_ne (by decide) ?_ | refine then_exit ?_)
  refine inBlock_eq ?_
  go_wp2_with (first | (go_at_call_of 37 (Value.int .u64 (c3' : Int)); refine (fmix_any c3' _ Mc3'.out).mono ?_; rw [Qd1'.out]; rintro e w' ⟨rfl, rfl⟩) | (go_at_call_of 37 (Value.int .u64 (c4' : Int)); refine (fmix_any c4' _ Mc4'.out).mono ?_; rw [Qd2'.out]; rintro e w' ⟨rfl, rfl⟩) | fail)
  go_ret2
  exact ⟨⟨_, by rw [HEND.out]; rfl⟩, _, rfl⟩
set_option maxRecDepth 100000 in
set_option maxHeartbeats 8000000 in
theorem sum_1 (g n h k : Nat) (bs : List Value) (y0 : UInt8) (w : World) (d : Dig w g n (.slice (some ⟨g, 2, none⟩) 1 16) bs h k) (hn : n ≤ 5000) (lh : h < 18446744073709551616) (lk : k < 18446744073709551616) (r0 : w.cell? ⟨g, 2, none⟩ = some (.int .u8 (y0.toNat : Int))) :
    Calls Try.prog 36 #[.pointer (some ⟨g, 0, none⟩)] w fun e w' => (∃ v, e = .returned (.tuple #[.int .u64 ((lastN (tailH h [y0]) (tailK k [y0]) n : Nat) : Int), v])) ∧ ∃ k, w' = w.drewN k := by
  have k0 := d.c0
  have k1 := d.c1
  have k20 := d.c20
  have k21 := d.c21
  have ln : n < 18446744073709551616 := by omega
  have en : IntKind.u64.wrap (n : Int) = (n : Int) := by rw [IntKind.wrap_u64]; omega
  have e15 : bits .and .i64 1 15 = 1 := and15 1 (by omega)
  clear d
  obtain ⟨z0, hz0⟩ : ∃ z, y0.toNat = z := ⟨_, rfl⟩
  have b0 : z0 < 256 := by rw [← hz0]; exact UInt8.toNat_lt _
  rw [hz0] at r0
  obtain ⟨v0, hv0⟩ : ∃ z, 2 ^ (8 * 0) * leN [y0] = z := ⟨_, rfl⟩
  have lv0 : v0 < 18446744073709551616 := by rw [← hv0]; exact part_lt 0 [y0] (by simp)
  have fv0 : bits .xor .u64 0 (z0 : Int) = (v0 : Int) := by have h := xr (m := 0) (r := leN []) (by omega) b0 (s := 0) (by rfl) (s' := v0) (by rw [← hz0]; exact hv0) (by decide) 1 (by decide); rw [show ((1 : Nat) : Int) = 1 from rfl, Int.mul_one] at h; exact h
  have hx : leN [y0] = v0 := by rw [← hv0]; simp
  obtain ⟨a1, qa1⟩ : ∃ z, mulN v0 9782798678568883157 = z := ⟨_, rfl⟩
  have la1 : a1 < 18446744073709551616 := by rw [← qa1]; exact mulN_lt _ _
  have ea1 := mulC qa1
  have Qa1 := Lib.hid qa1
  obtain ⟨a2, qa2⟩ : ∃ z, rotN a1 31 = z := ⟨_, rfl⟩
  have la2 : a2 < 18446744073709551616 := by rw [← qa2]; exact rotN_lt _ la1
  have ea2 := rot31 la1 qa2
  have Qa2 := Lib.hid qa2
  obtain ⟨a3, qa3⟩ : ∃ z, mulN a2 5545529020109919103 = z := ⟨_, rfl⟩
  have la3 : a3 < 18446744073709551616 := by rw [← qa3]; exact mulN_lt _ _
  have ea3 := mulD qa3
  have Qa3 := Lib.hid qa3
  obtain ⟨hh, qhh⟩ : ∃ z, h ^^^ a3 = z := ⟨_, rfl⟩
  have lhh : hh < 18446744073709551616 := by rw [← qhh]; exact xor_lt lh la3
  have ehh := xorI lh la3 qhh
  have Qhh := Lib.hid qhh
  obtain ⟨c1', qc1'⟩ : ∃ z, hh ^^^ n = z := ⟨_, rfl⟩
  have lc1' : c1' < 18446744073709551616 := by rw [← qc1']; exact xor_lt lhh ln
  have ec1' := xorI lhh ln qc1'
  have Qc1' := Lib.hid qc1'
  obtain ⟨c2', qc2'⟩ : ∃ z, k ^^^ n = z := ⟨_, rfl⟩
  have lc2' : c2' < 18446744073709551616 := by rw [← qc2']; exact xor_lt lk ln
  have ec2' := xorI lk ln qc2'
  have Qc2' := Lib.hid qc2'
  obtain ⟨c3', qc3'⟩ : ∃ z, addN c1' c2' = z := ⟨_, rfl⟩
  have lc3' : c3' < 18446744073709551616 := by rw [← qc3']; exact addN_lt _ _
  have ec3' := addI qc3'
  have Qc3' := Lib.hid qc3'
  obtain ⟨c4', qc4'⟩ : ∃ z, addN c2' c3' = z := ⟨_, rfl⟩
  have lc4' : c4' < 18446744073709551616 := by rw [← qc4']; exact addN_lt _ _
  have ec4' := addI qc4'
  have Qc4' := Lib.hid qc4'
  obtain ⟨d1', qd1'⟩ : ∃ z, mixN c3' = z := ⟨_, rfl⟩
  have Qd1' := Lib.hid qd1'
  obtain ⟨d2', qd2'⟩ : ∃ z, mixN c4' = z := ⟨_, rfl⟩
  have Qd2' := Lib.hid qd2'
  obtain ⟨c5', qc5'⟩ : ∃ z, addN d1' d2' = z := ⟨_, rfl⟩
  have ec5' := addI qc5'
  obtain ⟨c6', qc6'⟩ : ∃ z, addN d2' c5' = z := ⟨_, rfl⟩
  have ec6' := addI qc6'
  have HEND : Hid (lastN (tailH h [y0]) (tailK k [y0]) n = c5') := by
    show _ = _
    rw [show tailK k [y0] = k from rfl]
    rw [show tailH h [y0] = h ^^^ mulN (rotN (mulN (leN [y0]) 9782798678568883157) 31) 5545529020109919103 from rfl, hx, qa1, qa2, qa3, qhh]
    rw [lastN, qc1', qc2', qc3', qc4', qd1', qd2', qc5']
  have Ma1 := Lib.hid la1
  have Ma2 := Lib.hid la2
  have Ma3 := Lib.hid la3
  have Mhh := Lib.hid lhh
  have Mc1' := Lib.hid lc1'
  have Mc2' := Lib.hid lc2'
  have Mc3' := Lib.hid lc3'
  have Mc4' := Lib.hid lc4'
  clear qa1 qa2 qa3 qhh qc1' qc2' qc3' qc4' la1 la2 la3 lhh lc1' lc2' lc3' lc4' qd1' qd2' qc5' qc6' lh lk ln hx hv0 lv0 hz0
  go_enter Try.func36, Try.ntmps36
  go_wp2_with fail
  go_quiet (fail)
  go_upto_block 1 with fail
  apply wp_block
  apply exit_cut 15
  case h1 =>
    go_wp2
    exact ⟨rfl, rfl⟩
  (repeat first | refine inBlock_ne (by decide) ?_ | refine then_exit ?_)
  refine inBlock_eq ?_
  go_wp2_with (first | (go_at_call_of 37 (Value.int .u64 (c3' : Int)); refine (fmix_any c3' _ Mc3'.out).mono ?_; rw [Qd1'.out]; rintro e w' ⟨rfl, rfl⟩) | (go_at_call_of 37 (Value.int .u64 (c4' : Int)); refine (fmix_any c4' _ Mc4'.out).mono ?_; rw [Qd2'.out]; rintro e w' ⟨rfl, rfl⟩) | fail)
  go_ret2
  exact ⟨⟨_, by rw [HEND.out]; rfl⟩, _, rfl⟩
set_option maxRecDepth 100000 in
set_option maxHeartbeats 8000000 in
theorem sum_2 (g n h k : Nat) (bs : List Value) (y0 y1 : UInt8) (w : World) (d : Dig w g n (.slice (some ⟨g, 2, none⟩) 2 16) bs h k) (hn : n ≤ 5000) (lh : h < 18446744073709551616) (lk : k < 18446744073709551616) (r0 : w.cell? ⟨g, 2, none⟩ = some (.int .u8 (y0.toNat : Int))) (r1 : w.cell? ⟨g, 3, none⟩ = some (.int .u8 (y1.toNat : Int))) :
    Calls Try.prog 36 #[.pointer (some ⟨g, 0, none⟩)] w fun e w' => (∃ v, e = .returned (.tuple #[.int .u64 ((lastN (tailH h [y0, y1]) (tailK k [y0, y1]) n : Nat) : Int), v])) ∧ ∃ k, w' = w.drewN k := by
  have k0 := d.c0
  have k1 := d.c1
  have k20 := d.c20
  have k21 := d.c21
  have ln : n < 18446744073709551616 := by omega
  have en : IntKind.u64.wrap (n : Int) = (n : Int) := by rw [IntKind.wrap_u64]; omega
  have e15 : bits .and .i64 2 15 = 2 := and15 2 (by omega)
  clear d
  obtain ⟨z0, hz0⟩ : ∃ z, y0.toNat = z := ⟨_, rfl⟩
  have b0 : z0 < 256 := by rw [← hz0]; exact UInt8.toNat_lt _
  rw [hz0] at r0
  obtain ⟨z1, hz1⟩ : ∃ z, y1.toNat = z := ⟨_, rfl⟩
  have b1 : z1 < 256 := by rw [← hz1]; exact UInt8.toNat_lt _
  rw [hz1] at r1
  obtain ⟨v1, hv1⟩ : ∃ z, 2 ^ (8 * 1) * leN [y1] = z := ⟨_, rfl⟩
  have lv1 : v1 < 18446744073709551616 := by rw [← hv1]; exact part_lt 1 [y1] (by simp)
  have fv1 : bits .xor .u64 0 ((z1 : Int) * 256) = (v1 : Int) := xr (m := 1) (r := leN []) (by omega) b1 (s := 0) (by rfl) (s' := v1) (by rw [← hz1]; exact hv1) (by decide) 256 (by decide)
  obtain ⟨v0, hv0⟩ : ∃ z, 2 ^ (8 * 0) * leN [y0, y1] = z := ⟨_, rfl⟩
  have lv0 : v0 < 18446744073709551616 := by rw [← hv0]; exact part_lt 0 [y0, y1] (by simp)
  have fv0 : bits .xor .u64 (v1 : Int) (z0 : Int) = (v0 : Int) := by have h := xr (m := 0) (r := leN [y1]) (by omega) b0 (s := v1) hv1 (s' := v0) (by rw [← hz0]; exact hv0) lv1 1 (by decide); rw [show ((1 : Nat) : Int) = 1 from rfl, Int.mul_one] at h; exact h
  have hx : leN [y0, y1] = v0 := by rw [← hv0]; simp
  obtain ⟨a1, qa1⟩ : ∃ z, mulN v0 9782798678568883157 = z := ⟨_, rfl⟩
  have la1 : a1 < 18446744073709551616 := by rw [← qa1]; exact mulN_lt _ _
  have ea1 := mulC qa1
  have Qa1 := Lib.hid qa1
  obtain ⟨a2, qa2⟩ : ∃ z, rotN a1 31 = z := ⟨_, rfl⟩
  have la2 : a2 < 18446744073709551616 := by rw [← qa2]; exact rotN_lt _ la1
  have ea2 := rot31 la1 qa2
  have Qa2 := Lib.hid qa2
  obtain ⟨a3, qa3⟩ : ∃ z, mulN a2 5545529020109919103 = z := ⟨_, rfl⟩
  have la3 : a3 < 18446744073709551616 := by rw [← qa3]; exact mulN_lt _ _
  have ea3 := mulD qa3
  have Qa3 := Lib.hid qa3
  obtain ⟨hh, qhh⟩ : ∃ z, h ^^^ a3 = z := ⟨_, rfl⟩
  have lhh : hh < 18446744073709551616 := by rw [← qhh]; exact xor_lt lh la3
  have ehh := xorI lh la3 qhh
  have Qhh := Lib.hid qhh
  obtain ⟨c1', qc1'⟩ : ∃ z, hh ^^^ n = z := ⟨_, rfl⟩
  have lc1' : c1' < 18446744073709551616 := by rw [← qc1']; exact xor_lt lhh ln
  have ec1' := xorI lhh ln qc1'
  have Qc1' := Lib.hid qc1'
  obtain ⟨c2', qc2'⟩ : ∃ z, k ^^^ n = z := ⟨_, rfl⟩
  have lc2' : c2' < 18446744073709551616 := by rw [← qc2']; exact xor_lt lk ln
  have ec2' := xorI lk ln qc2'
  have Qc2' := Lib.hid qc2'
  obtain ⟨c3', qc3'⟩ : ∃ z, addN c1' c2' = z := ⟨_, rfl⟩
  have lc3' : c3' < 18446744073709551616 := by rw [← qc3']; exact addN_lt _ _
  have ec3' := addI qc3'
  have Qc3' := Lib.hid qc3'
  obtain ⟨c4', qc4'⟩ : ∃ z, addN c2' c3' = z := ⟨_, rfl⟩
  have lc4' : c4' < 18446744073709551616 := by rw [← qc4']; exact addN_lt _ _
  have ec4' := addI qc4'
  have Qc4' := Lib.hid qc4'
  obtain ⟨d1', qd1'⟩ : ∃ z, mixN c3' = z := ⟨_, rfl⟩
  have Qd1' := Lib.hid qd1'
  obtain ⟨d2', qd2'⟩ : ∃ z, mixN c4' = z := ⟨_, rfl⟩
  have Qd2' := Lib.hid qd2'
  obtain ⟨c5', qc5'⟩ : ∃ z, addN d1' d2' = z := ⟨_, rfl⟩
  have ec5' := addI qc5'
  obtain ⟨c6', qc6'⟩ : ∃ z, addN d2' c5' = z := ⟨_, rfl⟩
  have ec6' := addI qc6'
  have HEND : Hid (lastN (tailH h [y0, y1]) (tailK k [y0, y1]) n = c5') := by
    show _ = _
    rw [show tailK k [y0, y1] = k from rfl]
    rw [show tailH h [y0, y1] = h ^^^ mulN (rotN (mulN (leN [y0, y1]) 9782798678568883157) 31) 5545529020109919103 from rfl, hx, qa1, qa2, qa3, qhh]
    rw [lastN, qc1', qc2', qc3', qc4', qd1', qd2', qc5']
  have Ma1 := Lib.hid la1
  have Ma2 := Lib.hid la2
  have Ma3 := Lib.hid la3
  have Mhh := Lib.hid lhh
  have Mc1' := Lib.hid lc1'
  have Mc2' := Lib.hid lc2'
  have Mc3' := Lib.hid lc3'
  have Mc4' := Lib.hid lc4'
  clear qa1 qa2 qa3 qhh qc1' qc2' qc3' qc4' la1 la2 la3 lhh lc1' lc2' lc3' lc4' qd1' qd2' qc5' qc6' lh lk ln hx hv0 hv1 lv0 lv1 hz0 hz1
  go_enter Try.func36, Try.ntmps36
  go_wp2_with fail
  go_quiet (fail)
  go_upto_block 1 with fail
  apply wp_block
  apply exit_cut 14
  case h1 =>
    go_wp2
    exact ⟨rfl, rfl⟩
  (repeat first | refine inBlock_ne (by decide) ?_ | refine then_exit ?_)
  refine inBlock_eq ?_
  go_wp2_with (first | (go_at_call_of 37 (Value.int .u64 (c3' : Int)); refine (fmix_any c3' _ Mc3'.out).mono ?_; rw [Qd1'.out]; rintro e w' ⟨rfl, rfl⟩) | (go_at_call_of 37 (Value.int .u64 (c4' : Int)); refine (fmix_any c4' _ Mc4'.out).mono ?_; rw [Qd2'.out]; rintro e w' ⟨rfl, rfl⟩) | fail)
  go_ret2
  exact ⟨⟨_, by rw [HEND.out]; rfl⟩, _, rfl⟩
set_option maxRecDepth 100000 in
set_option maxHeartbeats 8000000 in
theorem sum_3 (g n h k : Nat) (bs : List Value) (y0 y1 y2 : UInt8) (w : World) (d : Dig w g n (.slice (some ⟨g, 2, none⟩) 3 16) bs h k) (hn : n ≤ 5000) (lh : h < 18446744073709551616) (lk : k < 18446744073709551616) (r0 : w.cell? ⟨g, 2, none⟩ = some (.int .u8 (y0.toNat : Int))) (r1 : w.cell? ⟨g, 3, none⟩ = some (.int .u8 (y1.toNat : Int))) (r2 : w.cell? ⟨g, 4, none⟩ = some (.int .u8 (y2.toNat : Int))) :
    Calls Try.prog 36 #[.pointer (some ⟨g, 0, none⟩)] w fun e w' => (∃ v, e = .returned (.tuple #[.int .u64 ((lastN (tailH h [y0, y1, y2]) (tailK k [y0, y1, y2]) n : Nat) : Int), v])) ∧ ∃ k, w' = w.drewN k := by
  have k0 := d.c0
  have k1 := d.c1
  have k20 := d.c20
  have k21 := d.c21
  have ln : n < 18446744073709551616 := by omega
  have en : IntKind.u64.wrap (n : Int) = (n : Int) := by rw [IntKind.wrap_u64]; omega
  have e15 : bits .and .i64 3 15 = 3 := and15 3 (by omega)
  clear d
  obtain ⟨z0, hz0⟩ : ∃ z, y0.toNat = z := ⟨_, rfl⟩
  have b0 : z0 < 256 := by rw [← hz0]; exact UInt8.toNat_lt _
  rw [hz0] at r0
  obtain ⟨z1, hz1⟩ : ∃ z, y1.toNat = z := ⟨_, rfl⟩
  have b1 : z1 < 256 := by rw [← hz1]; exact UInt8.toNat_lt _
  rw [hz1] at r1
  obtain ⟨z2, hz2⟩ : ∃ z, y2.toNat = z := ⟨_, rfl⟩
  have b2 : z2 < 256 := by rw [← hz2]; exact UInt8.toNat_lt _
  rw [hz2] at r2
  obtain ⟨v2, hv2⟩ : ∃ z, 2 ^ (8 * 2) * leN [y2] = z := ⟨_, rfl⟩
  have lv2 : v2 < 18446744073709551616 := by rw [← hv2]; exact part_lt 2 [y2] (by simp)
  have fv2 : bits .xor .u64 0 ((z2 : Int) * 65536) = (v2 : Int) := xr (m := 2) (r := leN []) (by omega) b2 (s := 0) (by rfl) (s' := v2) (by rw [← hz2]; exact hv2) (by decide) 65536 (by decide)
  obtain ⟨v1, hv1⟩ : ∃ z, 2 ^ (8 * 1) * leN [y1, y2] = z := ⟨_, rfl⟩
  have lv1 : v1 < 18446744073709551616 := by rw [← hv1]; exact part_lt 1 [y1, y2] (by simp)
  have fv1 : bits .xor .u64 (v2 : Int) ((z1 : Int) * 256) = (v1 : Int) := xr (m := 1) (r := leN [y2]) (by omega) b1 (s := v2) hv2 (s' := v1) (by rw [← hz1]; exact hv1) lv2 256 (by decide)
  obtain ⟨v0, hv0⟩ : ∃ z, 2 ^ (8 * 0) * leN [y0, y1, y2] = z := ⟨_, rfl⟩
  have lv0 : v0 < 18446744073709551616 := by rw [← hv0]; exact part_lt 0 [y0, y1, y2] (by simp)
  have fv0 : bits .xor .u64 (v1 : Int) (z0 : Int) = (v0 : Int) := by have h := xr (m := 0) (r := leN [y1, y2]) (by omega) b0 (s := v1) hv1 (s' := v0) (by rw [← hz0]; exact hv0) lv1 1 (by decide); rw [show ((1 : Nat) : Int) = 1 from rfl, Int.mul_one] at h; exact h
  have hx : leN [y0, y1, y2] = v0 := by rw [← hv0]; simp
  obtain ⟨a1, qa1⟩ : ∃ z, mulN v0 9782798678568883157 = z := ⟨_, rfl⟩
  have la1 : a1 < 18446744073709551616 := by rw [← qa1]; exact mulN_lt _ _
  have ea1 := mulC qa1
  have Qa1 := Lib.hid qa1
  obtain ⟨a2, qa2⟩ : ∃ z, rotN a1 31 = z := ⟨_, rfl⟩
  have la2 : a2 < 18446744073709551616 := by rw [← qa2]; exact rotN_lt _ la1
  have ea2 := rot31 la1 qa2
  have Qa2 := Lib.hid qa2
  obtain ⟨a3, qa3⟩ : ∃ z, mulN a2 5545529020109919103 = z := ⟨_, rfl⟩
  have la3 : a3 < 18446744073709551616 := by rw [← qa3]; exact mulN_lt _ _
  have ea3 := mulD qa3
  have Qa3 := Lib.hid qa3
  obtain ⟨hh, qhh⟩ : ∃ z, h ^^^ a3 = z := ⟨_, rfl⟩
  have lhh : hh < 18446744073709551616 := by rw [← qhh]; exact xor_lt lh la3
  have ehh := xorI lh la3 qhh
  have Qhh := Lib.hid qhh
  obtain ⟨c1', qc1'⟩ : ∃ z, hh ^^^ n = z := ⟨_, rfl⟩
  have lc1' : c1' < 18446744073709551616 := by rw [← qc1']; exact xor_lt lhh ln
  have ec1' := xorI lhh ln qc1'
  have Qc1' := Lib.hid qc1'
  obtain ⟨c2', qc2'⟩ : ∃ z, k ^^^ n = z := ⟨_, rfl⟩
  have lc2' : c2' < 18446744073709551616 := by rw [← qc2']; exact xor_lt lk ln
  have ec2' := xorI lk ln qc2'
  have Qc2' := Lib.hid qc2'
  obtain ⟨c3', qc3'⟩ : ∃ z, addN c1' c2' = z := ⟨_, rfl⟩
  have lc3' : c3' < 18446744073709551616 := by rw [← qc3']; exact addN_lt _ _
  have ec3' := addI qc3'
  have Qc3' := Lib.hid qc3'
  obtain ⟨c4', qc4'⟩ : ∃ z, addN c2' c3' = z := ⟨_, rfl⟩
  have lc4' : c4' < 18446744073709551616 := by rw [← qc4']; exact addN_lt _ _
  have ec4' := addI qc4'
  have Qc4' := Lib.hid qc4'
  obtain ⟨d1', qd1'⟩ : ∃ z, mixN c3' = z := ⟨_, rfl⟩
  have Qd1' := Lib.hid qd1'
  obtain ⟨d2', qd2'⟩ : ∃ z, mixN c4' = z := ⟨_, rfl⟩
  have Qd2' := Lib.hid qd2'
  obtain ⟨c5', qc5'⟩ : ∃ z, addN d1' d2' = z := ⟨_, rfl⟩
  have ec5' := addI qc5'
  obtain ⟨c6', qc6'⟩ : ∃ z, addN d2' c5' = z := ⟨_, rfl⟩
  have ec6' := addI qc6'
  have HEND : Hid (lastN (tailH h [y0, y1, y2]) (tailK k [y0, y1, y2]) n = c5') := by
    show _ = _
    rw [show tailK k [y0, y1, y2] = k from rfl]
    rw [show tailH h [y0, y1, y2] = h ^^^ mulN (rotN (mulN (leN [y0, y1, y2]) 9782798678568883157) 31) 5545529020109919103 from rfl, hx, qa1, qa2, qa3, qhh]
    rw [lastN, qc1', qc2', qc3', qc4', qd1', qd2', qc5']
  have Ma1 := Lib.hid la1
  have Ma2 := Lib.hid la2
  have Ma3 := Lib.hid la3
  have Mhh := Lib.hid lhh
  have Mc1' := Lib.hid lc1'
  have Mc2' := Lib.hid lc2'
  have Mc3' := Lib.hid lc3'
  have Mc4' := Lib.hid lc4'
  clear qa1 qa2 qa3 qhh qc1' qc2' qc3' qc4' la1 la2 la3 lhh lc1' lc2' lc3' lc4' qd1' qd2' qc5' qc6' lh lk ln hx hv0 hv1 hv2 lv0 lv1 lv2 hz0 hz1 hz2
  go_enter Try.func36, Try.ntmps36
  go_wp2_with fail
  go_quiet (fail)
  go_upto_block 1 with fail
  apply wp_block
  apply exit_cut 13
  case h1 =>
    go_wp2
    exact ⟨rfl, rfl⟩
  (repeat first | refine inBlock_ne (by decide) ?_ | refine then_exit ?_)
  refine inBlock_eq ?_
  go_wp2_with (first | (go_at_call_of 37 (Value.int .u64 (c3' : Int)); refine (fmix_any c3' _ Mc3'.out).mono ?_; rw [Qd1'.out]; rintro e w' ⟨rfl, rfl⟩) | (go_at_call_of 37 (Value.int .u64 (c4' : Int)); refine (fmix_any c4' _ Mc4'.out).mono ?_; rw [Qd2'.out]; rintro e w' ⟨rfl, rfl⟩) | fail)
  go_ret2
  exact ⟨⟨_, by rw [HEND.out]; rfl⟩, _, rfl⟩
set_option maxRecDepth 100000 in
set_option maxHeartbeats 8000000 in
theorem sum_4 (g n h k : Nat) (bs : List Value) (y0 y1 y2 y3 : UInt8) (w : World) (d : Dig w g n (.slice (some ⟨g, 2, none⟩) 4 16) bs h k) (hn : n ≤ 5000) (lh : h < 18446744073709551616) (lk : k < 18446744073709551616) (r0 : w.cell? ⟨g, 2, none⟩ = some (.int .u8 (y0.toNat : Int))) (r1 : w.cell? ⟨g, 3, none⟩ = some (.int .u8 (y1.toNat : Int))) (r2 : w.cell? ⟨g, 4, none⟩ = some (.int .u8 (y2.toNat : Int))) (r3 : w.cell? ⟨g, 5, none⟩ = some (.int .u8 (y3.toNat : Int))) :
    Calls Try.prog 36 #[.pointer (some ⟨g, 0, none⟩)] w fun e w' => (∃ v, e = .returned (.tuple #[.int .u64 ((lastN (tailH h [y0, y1, y2, y3]) (tailK k [y0, y1, y2, y3]) n : Nat) : Int), v])) ∧ ∃ k, w' = w.drewN k := by
  have k0 := d.c0
  have k1 := d.c1
  have k20 := d.c20
  have k21 := d.c21
  have ln : n < 18446744073709551616 := by omega
  have en : IntKind.u64.wrap (n : Int) = (n : Int) := by rw [IntKind.wrap_u64]; omega
  have e15 : bits .and .i64 4 15 = 4 := and15 4 (by omega)
  clear d
  obtain ⟨z0, hz0⟩ : ∃ z, y0.toNat = z := ⟨_, rfl⟩
  have b0 : z0 < 256 := by rw [← hz0]; exact UInt8.toNat_lt _
  rw [hz0] at r0
  obtain ⟨z1, hz1⟩ : ∃ z, y1.toNat = z := ⟨_, rfl⟩
  have b1 : z1 < 256 := by rw [← hz1]; exact UInt8.toNat_lt _
  rw [hz1] at r1
  obtain ⟨z2, hz2⟩ : ∃ z, y2.toNat = z := ⟨_, rfl⟩
  have b2 : z2 < 256 := by rw [← hz2]; exact UInt8.toNat_lt _
  rw [hz2] at r2
  obtain ⟨z3, hz3⟩ : ∃ z, y3.toNat = z := ⟨_, rfl⟩
  have b3 : z3 < 256 := by rw [← hz3]; exact UInt8.toNat_lt _
  rw [hz3] at r3
  obtain ⟨v3, hv3⟩ : ∃ z, 2 ^ (8 * 3) * leN [y3] = z := ⟨_, rfl⟩
  have lv3 : v3 < 18446744073709551616 := by rw [← hv3]; exact part_lt 3 [y3] (by simp)
  have fv3 : bits .xor .u64 0 ((z3 : Int) * 16777216) = (v3 : Int) := xr (m := 3) (r := leN []) (by omega) b3 (s := 0) (by rfl) (s' := v3) (by rw [← hz3]; exact hv3) (by decide) 16777216 (by decide)
  obtain ⟨v2, hv2⟩ : ∃ z, 2 ^ (8 * 2) * leN [y2, y3] = z := ⟨_, rfl⟩
  have lv2 : v2 < 18446744073709551616 := by rw [← hv2]; exact part_lt 2 [y2, y3] (by simp)
  have fv2 : bits .xor .u64 (v3 : Int) ((z2 : Int) * 65536) = (v2 : Int) := xr (m := 2) (r := leN [y3]) (by omega) b2 (s := v3) hv3 (s' := v2) (by rw [← hz2]; exact hv2) lv3 65536 (by decide)
  obtain ⟨v1, hv1⟩ : ∃ z, 2 ^ (8 * 1) * leN [y1, y2, y3] = z := ⟨_, rfl⟩
  have lv1 : v1 < 18446744073709551616 := by rw [← hv1]; exact part_lt 1 [y1, y2, y3] (by simp)
  have fv1 : bits .xor .u64 (v2 : Int) ((z1 : Int) * 256) = (v1 : Int) := xr (m := 1) (r := leN [y2, y3]) (by omega) b1 (s := v2) hv2 (s' := v1) (by rw [← hz1]; exact hv1) lv2 256 (by decide)
  obtain ⟨v0, hv0⟩ : ∃ z, 2 ^ (8 * 0) * leN [y0, y1, y2, y3] = z := ⟨_, rfl⟩
  have lv0 : v0 < 18446744073709551616 := by rw [← hv0]; exact part_lt 0 [y0, y1, y2, y3] (by simp)
  have fv0 : bits .xor .u64 (v1 : Int) (z0 : Int) = (v0 : Int) := by have h := xr (m := 0) (r := leN [y1, y2, y3]) (by omega) b0 (s := v1) hv1 (s' := v0) (by rw [← hz0]; exact hv0) lv1 1 (by decide); rw [show ((1 : Nat) : Int) = 1 from rfl, Int.mul_one] at h; exact h
  have hx : leN [y0, y1, y2, y3] = v0 := by rw [← hv0]; simp
  obtain ⟨a1, qa1⟩ : ∃ z, mulN v0 9782798678568883157 = z := ⟨_, rfl⟩
  have la1 : a1 < 18446744073709551616 := by rw [← qa1]; exact mulN_lt _ _
  have ea1 := mulC qa1
  have Qa1 := Lib.hid qa1
  obtain ⟨a2, qa2⟩ : ∃ z, rotN a1 31 = z := ⟨_, rfl⟩
  have la2 : a2 < 18446744073709551616 := by rw [← qa2]; exact rotN_lt _ la1
  have ea2 := rot31 la1 qa2
  have Qa2 := Lib.hid qa2
  obtain ⟨a3, qa3⟩ : ∃ z, mulN a2 5545529020109919103 = z := ⟨_, rfl⟩
  have la3 : a3 < 18446744073709551616 := by rw [← qa3]; exact mulN_lt _ _
  have ea3 := mulD qa3
  have Qa3 := Lib.hid qa3
  obtain ⟨hh, qhh⟩ : ∃ z, h ^^^ a3 = z := ⟨_, rfl⟩
  have lhh : hh < 18446744073709551616 := by rw [← qhh]; exact xor_lt lh la3
  have ehh := xorI lh la3 qhh
  have Qhh := Lib.hid qhh
  obtain ⟨c1', qc1'⟩ : ∃ z, hh ^^^ n = z := ⟨_, rfl⟩
  have lc1' : c1' < 18446744073709551616 := by rw [← qc1']; exact xor_lt lhh ln
  have ec1' := xorI lhh ln qc1'
  have Qc1' := Lib.hid qc1'
  obtain ⟨c2', qc2'⟩ : ∃ z, k ^^^ n = z := ⟨_, rfl⟩
  have lc2' : c2' < 18446744073709551616 := by rw [← qc2']; exact xor_lt lk ln
  have ec2' := xorI lk ln qc2'
  have Qc2' := Lib.hid qc2'
  obtain ⟨c3', qc3'⟩ : ∃ z, addN c1' c2' = z := ⟨_, rfl⟩
  have lc3' : c3' < 18446744073709551616 := by rw [← qc3']; exact addN_lt _ _
  have ec3' := addI qc3'
  have Qc3' := Lib.hid qc3'
  obtain ⟨c4', qc4'⟩ : ∃ z, addN c2' c3' = z := ⟨_, rfl⟩
  have lc4' : c4' < 18446744073709551616 := by rw [← qc4']; exact addN_lt _ _
  have ec4' := addI qc4'
  have Qc4' := Lib.hid qc4'
  obtain ⟨d1', qd1'⟩ : ∃ z, mixN c3' = z := ⟨_, rfl⟩
  have Qd1' := Lib.hid qd1'
  obtain ⟨d2', qd2'⟩ : ∃ z, mixN c4' = z := ⟨_, rfl⟩
  have Qd2' := Lib.hid qd2'
  obtain ⟨c5', qc5'⟩ : ∃ z, addN d1' d2' = z := ⟨_, rfl⟩
  have ec5' := addI qc5'
  obtain ⟨c6', qc6'⟩ : ∃ z, addN d2' c5' = z := ⟨_, rfl⟩
  have ec6' := addI qc6'
  have HEND : Hid (lastN (tailH h [y0, y1, y2, y3]) (tailK k [y0, y1, y2, y3]) n = c5') := by
    show _ = _
    rw [show tailK k [y0, y1, y2, y3] = k from rfl]
    rw [show tailH h [y0, y1, y2, y3] = h ^^^ mulN (rotN (mulN (leN [y0, y1, y2, y3]) 9782798678568883157) 31) 5545529020109919103 from rfl, hx, qa1, qa2, qa3, qhh]
    rw [lastN, qc1', qc2', qc3', qc4', qd1', qd2', qc5']
  have Ma1 := Lib.hid la1
  have Ma2 := Lib.hid la2
  have Ma3 := Lib.hid la3
  have Mhh := Lib.hid lhh
  have Mc1' := Lib.hid lc1'
  have Mc2' := Lib.hid lc2'
  have Mc3' := Lib.hid lc3'
  have Mc4' := Lib.hid lc4'
  clear qa1 qa2 qa3 qhh qc1' qc2' qc3' qc4' la1 la2 la3 lhh lc1' lc2' lc3' lc4' qd1' qd2' qc5' qc6' lh lk ln hx hv0 hv1 hv2 hv3 lv0 lv1 lv2 lv3 hz0 hz1 hz2 hz3
  go_enter Try.func36, Try.ntmps36
  go_wp2_with fail
  go_quiet (fail)
  go_upto_block 1 with fail
  apply wp_block
  apply exit_cut 12
  case h1 =>
    go_wp2
    exact ⟨rfl, rfl⟩
  (repeat first | refine inBlock_ne (by decide) ?_ | refine then_exit ?_)
  refine inBlock_eq ?_
  go_wp2_with (first | (go_at_call_of 37 (Value.int .u64 (c3' : Int)); refine (fmix_any c3' _ Mc3'.out).mono ?_; rw [Qd1'.out]; rintro e w' ⟨rfl, rfl⟩) | (go_at_call_of 37 (Value.int .u64 (c4' : Int)); refine (fmix_any c4' _ Mc4'.out).mono ?_; rw [Qd2'.out]; rintro e w' ⟨rfl, rfl⟩) | fail)
  go_ret2
  exact ⟨⟨_, by rw [HEND.out]; rfl⟩, _, rfl⟩
set_option maxRecDepth 100000 in
set_option maxHeartbeats 8000000 in
theorem sum_5 (g n h k : Nat) (bs : List Value) (y0 y1 y2 y3 y4 : UInt8) (w : World) (d : Dig w g n (.slice (some ⟨g, 2, none⟩) 5 16) bs h k) (hn : n ≤ 5000) (lh : h < 18446744073709551616) (lk : k < 18446744073709551616) (r0 : w.cell? ⟨g, 2, none⟩ = some (.int .u8 (y0.toNat : Int))) (r1 : w.cell? ⟨g, 3, none⟩ = some (.int .u8 (y1.toNat : Int))) (r2 : w.cell? ⟨g, 4, none⟩ = some (.int .u8 (y2.toNat : Int))) (r3 : w.cell? ⟨g, 5, none⟩ = some (.int .u8 (y3.toNat : Int))) (r4 : w.cell? ⟨g, 6, none⟩ = some (.int .u8 (y4.toNat : Int))) :
    Calls Try.prog 36 #[.pointer (some ⟨g, 0, none⟩)] w fun e w' => (∃ v, e = .returned (.tuple #[.int .u64 ((lastN (tailH h [y0, y1, y2, y3, y4]) (tailK k [y0, y1, y2, y3, y4]) n : Nat) : Int), v])) ∧ ∃ k, w' = w.drewN k := by
  have k0 := d.c0
  have k1 := d.c1
  have k20 := d.c20
  have k21 := d.c21
  have ln : n < 18446744073709551616 := by omega
  have en : IntKind.u64.wrap (n : Int) = (n : Int) := by rw [IntKind.wrap_u64]; omega
  have e15 : bits .and .i64 5 15 = 5 := and15 5 (by omega)
  clear d
  obtain ⟨z0, hz0⟩ : ∃ z, y0.toNat = z := ⟨_, rfl⟩
  have b0 : z0 < 256 := by rw [← hz0]; exact UInt8.toNat_lt _
  rw [hz0] at r0
  obtain ⟨z1, hz1⟩ : ∃ z, y1.toNat = z := ⟨_, rfl⟩
  have b1 : z1 < 256 := by rw [← hz1]; exact UInt8.toNat_lt _
  rw [hz1] at r1
  obtain ⟨z2, hz2⟩ : ∃ z, y2.toNat = z := ⟨_, rfl⟩
  have b2 : z2 < 256 := by rw [← hz2]; exact UInt8.toNat_lt _
  rw [hz2] at r2
  obtain ⟨z3, hz3⟩ : ∃ z, y3.toNat = z := ⟨_, rfl⟩
  have b3 : z3 < 256 := by rw [← hz3]; exact UInt8.toNat_lt _
  rw [hz3] at r3
  obtain ⟨z4, hz4⟩ : ∃ z, y4.toNat = z := ⟨_, rfl⟩
  have b4 : z4 < 256 := by rw [← hz4]; exact UInt8.toNat_lt _
  rw [hz4] at r4
  obtain ⟨v4, hv4⟩ : ∃ z, 2 ^ (8 * 4) * leN [y4] = z := ⟨_, rfl⟩
  have lv4 : v4 < 18446744073709551616 := by rw [← hv4]; exact part_lt 4 [y4] (by simp)
  have fv4 : bits .xor .u64 0 ((z4 : Int) * 4294967296) = (v4 : Int) := xr (m := 4) (r := leN []) (by omega) b4 (s := 0) (by rfl) (s' := v4) (by rw [← hz4]; exact hv4) (by decide) 4294967296 (by decide)
  obtain ⟨v3, hv3⟩ : ∃ z, 2 ^ (8 * 3) * leN [y3, y4] = z := ⟨_, rfl⟩
  have lv3 : v3 < 18446744073709551616 := by rw [← hv3]; exact part_lt 3 [y3, y4] (by simp)
  have fv3 : bits .xor .u64 (v4 : Int) ((z3 : Int) * 16777216) = (v3 : Int) := xr (m := 3) (r := leN [y4]) (by omega) b3 (s := v4) hv4 (s' := v3) (by rw [← hz3]; exact hv3) lv4 16777216 (by decide)
  obtain ⟨v2, hv2⟩ : ∃ z, 2 ^ (8 * 2) * leN [y2, y3, y4] = z := ⟨_, rfl⟩
  have lv2 : v2 < 18446744073709551616 := by rw [← hv2]; exact part_lt 2 [y2, y3, y4] (by simp)
  have fv2 : bits .xor .u64 (v3 : Int) ((z2 : Int) * 65536) = (v2 : Int) := xr (m := 2) (r := leN [y3, y4]) (by omega) b2 (s := v3) hv3 (s' := v2) (by rw [← hz2]; exact hv2) lv3 65536 (by decide)
  obtain ⟨v1, hv1⟩ : ∃ z, 2 ^ (8 * 1) * leN [y1, y2, y3, y4] = z := ⟨_, rfl⟩
  have lv1 : v1 < 18446744073709551616 := by rw [← hv1]; exact part_lt 1 [y1, y2, y3, y4] (by simp)
  have fv1 : bits .xor .u64 (v2 : Int) ((z1 : Int) * 256) = (v1 : Int) := xr (m := 1) (r := leN [y2, y3, y4]) (by omega) b1 (s := v2) hv2 (s' := v1) (by rw [← hz1]; exact hv1) lv2 256 (by decide)
  obtain ⟨v0, hv0⟩ : ∃ z, 2 ^ (8 * 0) * leN [y0, y1, y2, y3, y4] = z := ⟨_, rfl⟩
  have lv0 : v0 < 18446744073709551616 := by rw [← hv0]; exact part_lt 0 [y0, y1, y2, y3, y4] (by simp)
  have fv0 : bits .xor .u64 (v1 : Int) (z0 : Int) = (v0 : Int) := by have h := xr (m := 0) (r := leN [y1, y2, y3, y4]) (by omega) b0 (s := v1) hv1 (s' := v0) (by rw [← hz0]; exact hv0) lv1 1 (by decide); rw [show ((1 : Nat) : Int) = 1 from rfl, Int.mul_one] at h; exact h
  have hx : leN [y0, y1, y2, y3, y4] = v0 := by rw [← hv0]; simp
  obtain ⟨a1, qa1⟩ : ∃ z, mulN v0 9782798678568883157 = z := ⟨_, rfl⟩
  have la1 : a1 < 18446744073709551616 := by rw [← qa1]; exact mulN_lt _ _
  have ea1 := mulC qa1
  have Qa1 := Lib.hid qa1
  obtain ⟨a2, qa2⟩ : ∃ z, rotN a1 31 = z := ⟨_, rfl⟩
  have la2 : a2 < 18446744073709551616 := by rw [← qa2]; exact rotN_lt _ la1
  have ea2 := rot31 la1 qa2
  have Qa2 := Lib.hid qa2
  obtain ⟨a3, qa3⟩ : ∃ z, mulN a2 5545529020109919103 = z := ⟨_, rfl⟩
  have la3 : a3 < 18446744073709551616 := by rw [← qa3]; exact mulN_lt _ _
  have ea3 := mulD qa3
  have Qa3 := Lib.hid qa3
  obtain ⟨hh, qhh⟩ : ∃ z, h ^^^ a3 = z := ⟨_, rfl⟩
  have lhh : hh < 18446744073709551616 := by rw [← qhh]; exact xor_lt lh la3
  have ehh := xorI lh la3 qhh
  have Qhh := Lib.hid qhh
  obtain ⟨c1', qc1'⟩ : ∃ z, hh ^^^ n = z := ⟨_, rfl⟩
  have lc1' : c1' < 18446744073709551616 := by rw [← qc1']; exact xor_lt lhh ln
  have ec1' := xorI lhh ln qc1'
  have Qc1' := Lib.hid qc1'
  obtain ⟨c2', qc2'⟩ : ∃ z, k ^^^ n = z := ⟨_, rfl⟩
  have lc2' : c2' < 18446744073709551616 := by rw [← qc2']; exact xor_lt lk ln
  have ec2' := xorI lk ln qc2'
  have Qc2' := Lib.hid qc2'
  obtain ⟨c3', qc3'⟩ : ∃ z, addN c1' c2' = z := ⟨_, rfl⟩
  have lc3' : c3' < 18446744073709551616 := by rw [← qc3']; exact addN_lt _ _
  have ec3' := addI qc3'
  have Qc3' := Lib.hid qc3'
  obtain ⟨c4', qc4'⟩ : ∃ z, addN c2' c3' = z := ⟨_, rfl⟩
  have lc4' : c4' < 18446744073709551616 := by rw [← qc4']; exact addN_lt _ _
  have ec4' := addI qc4'
  have Qc4' := Lib.hid qc4'
  obtain ⟨d1', qd1'⟩ : ∃ z, mixN c3' = z := ⟨_, rfl⟩
  have Qd1' := Lib.hid qd1'
  obtain ⟨d2', qd2'⟩ : ∃ z, mixN c4' = z := ⟨_, rfl⟩
  have Qd2' := Lib.hid qd2'
  obtain ⟨c5', qc5'⟩ : ∃ z, addN d1' d2' = z := ⟨_, rfl⟩
  have ec5' := addI qc5'
  obtain ⟨c6', qc6'⟩ : ∃ z, addN d2' c5' = z := ⟨_, rfl⟩
  have ec6' := addI qc6'
  have HEND : Hid (lastN (tailH h [y0, y1, y2, y3, y4]) (tailK k [y0, y1, y2, y3, y4]) n = c5') := by
    show _ = _
    rw [show tailK k [y0, y1, y2, y3, y4] = k from rfl]
    rw [show tailH h [y0, y1, y2, y3, y4] = h ^^^ mulN (rotN (mulN (leN [y0, y1, y2, y3, y4]) 9782798678568883157) 31) 5545529020109919103 from rfl, hx, qa1, qa2, qa3, qhh]
    rw [lastN, qc1', qc2', qc3', qc4', qd1', qd2', qc5']
  have Ma1 := Lib.hid la1
  have Ma2 := Lib.hid la2
  have Ma3 := Lib.hid la3
  have Mhh := Lib.hid lhh
  have Mc1' := Lib.hid lc1'
  have Mc2' := Lib.hid lc2'
  have Mc3' := Lib.hid lc3'
  have Mc4' := Lib.hid lc4'
  clear qa1 qa2 qa3 qhh qc1' qc2' qc3' qc4' la1 la2 la3 lhh lc1' lc2' lc3' lc4' qd1' qd2' qc5' qc6' lh lk ln hx hv0 hv1 hv2 hv3 hv4 lv0 lv1 lv2 lv3 lv4 hz0 hz1 hz2 hz3 hz4
  go_enter Try.func36, Try.ntmps36
  go_wp2_with fail
  go_quiet (fail)
  go_upto_block 1 with fail
  apply wp_block
  apply exit_cut 11
  case h1 =>
    go_wp2
    exact ⟨rfl, rfl⟩
  (repeat first | refine inBlock_ne (by decide) ?_ | refine then_exit ?_)
  refine inBlock_eq ?_
  go_wp2_with (first | (go_at_call_of 37 (Value.int .u64 (c3' : Int)); refine (fmix_any c3' _ Mc3'.out).mono ?_; rw [Qd1'.out]; rintro e w' ⟨rfl, rfl⟩) | (go_at_call_of 37 (Value.int .u64 (c4' : Int)); refine (fmix_any c4' _ Mc4'.out).mono ?_; rw [Qd2'.out]; rintro e w' ⟨rfl, rfl⟩) | fail)
  go_ret2
  exact ⟨⟨_, by rw [HEND.out]; rfl⟩, _, rfl⟩
set_option maxRecDepth 100000 in
set_option maxHeartbeats 8000000 in
theorem sum_6 (g n h k : Nat) (bs : List Value) (y0 y1 y2 y3 y4 y5 : UInt8) (w : World) (d : Dig w g n (.slice (some ⟨g, 2, none⟩) 6 16) bs h k) (hn : n ≤ 5000) (lh : h < 18446744073709551616) (lk : k < 18446744073709551616) (r0 : w.cell? ⟨g, 2, none⟩ = some (.int .u8 (y0.toNat : Int))) (r1 : w.cell? ⟨g, 3, none⟩ = some (.int .u8 (y1.toNat : Int))) (r2 : w.cell? ⟨g, 4, none⟩ = some (.int .u8 (y2.toNat : Int))) (r3 : w.cell? ⟨g, 5, none⟩ = some (.int .u8 (y3.toNat : Int))) (r4 : w.cell? ⟨g, 6, none⟩ = some (.int .u8 (y4.toNat : Int))) (r5 : w.cell? ⟨g, 7, none⟩ = some (.int .u8 (y5.toNat : Int))) :
    Calls Try.prog 36 #[.pointer (some ⟨g, 0, none⟩)] w fun e w' => (∃ v, e = .returned (.tuple #[.int .u64 ((lastN (tailH h [y0, y1, y2, y3, y4, y5]) (tailK k [y0, y1, y2, y3, y4, y5]) n : Nat) : Int), v])) ∧ ∃ k, w' = w.drewN k := by
  have k0 := d.c0
  have k1 := d.c1
  have k20 := d.c20
  have k21 := d.c21
  have ln : n < 18446744073709551616 := by omega
  have en : IntKind.u64.wrap (n : Int) = (n : Int) := by rw [IntKind.wrap_u64]; omega
  have e15 : bits .and .i64 6 15 = 6 := and15 6 (by omega)
  clear d
  obtain ⟨z0, hz0⟩ : ∃ z, y0.toNat = z := ⟨_, rfl⟩
  have b0 : z0 < 256 := by rw [← hz0]; exact UInt8.toNat_lt _
  rw [hz0] at r0
  obtain ⟨z1, hz1⟩ : ∃ z, y1.toNat = z := ⟨_, rfl⟩
  have b1 : z1 < 256 := by rw [← hz1]; exact UInt8.toNat_lt _
  rw [hz1] at r1
  obtain ⟨z2, hz2⟩ : ∃ z, y2.toNat = z := ⟨_, rfl⟩
  have b2 : z2 < 256 := by rw [← hz2]; exact UInt8.toNat_lt _
  rw [hz2] at r2
  obtain ⟨z3, hz3⟩ : ∃ z, y3.toNat = z := ⟨_, rfl⟩
  have b3 : z3 < 256 := by rw [← hz3]; exact UInt8.toNat_lt _
  rw [hz3] at r3
  obtain ⟨z4, hz4⟩ : ∃ z, y4.toNat = z := ⟨_, rfl⟩
  have b4 : z4 < 256 := by rw [← hz4]; exact UInt8.toNat_lt _
  rw [hz4] at r4
  obtain ⟨z5, hz5⟩ : ∃ z, y5.toNat = z := ⟨_, rfl⟩
  have b5 : z5 < 256 := by rw [← hz5]; exact UInt8.toNat_lt _
  rw [hz5] at r5
  obtain ⟨v5, hv5⟩ : ∃ z, 2 ^ (8 * 5) * leN [y5] = z := ⟨_, rfl⟩
  have lv5 : v5 < 18446744073709551616 := by rw [← hv5]; exact part_lt 5 [y5] (by simp)
  have fv5 : bits .xor .u64 0 ((z5 : Int) * 1099511627776) = (v5 : Int) := xr (m := 5) (r := leN []) (by omega) b5 (s := 0) (by rfl) (s' := v5) (by rw [← hz5]; exact hv5) (by decide) 1099511627776 (by decide)
  obtain ⟨v4, hv4⟩ : ∃ z, 2 ^ (8 * 4) * leN [y4, y5] = z := ⟨_, rfl⟩
  have lv4 : v4 < 18446744073709551616 := by rw [← hv4]; exact part_lt 4 [y4, y5] (by simp)
  have fv4 : bits .xor .u64 (v5 : Int) ((z4 : Int) * 4294967296) = (v4 : Int) := xr (m := 4) (r := leN [y5]) (by omega) b4 (s := v5) hv5 (s' := v4) (by rw [← hz4]; exact hv4) lv5 4294967296 (by decide)
  obtain ⟨v3, hv3⟩ : ∃ z, 2 ^ (8 * 3) * leN [y3, y4, y5] = z := ⟨_, rfl⟩
  have lv3 : v3 < 18446744073709551616 := by rw [← hv3]; exact part_lt 3 [y3, y4, y5] (by simp)
  have fv3 : bits .xor .u64 (v4 : Int) ((z3 : Int) * 16777216) = (v3 : Int) := xr (m := 3) (r := leN [y4, y5]) (by omega) b3 (s := v4) hv4 (s' := v3) (by rw [← hz3]; exact hv3) lv4 16777216 (by decide)
  obtain ⟨v2, hv2⟩ : ∃ z, 2 ^ (8 * 2) * leN [y2, y3, y4, y5] = z := ⟨_, rfl⟩
  have lv2 : v2 < 18446744073709551616 := by rw [← hv2]; exact part_lt 2 [y2, y3, y4, y5] (by simp)
  have fv2 : bits .xor .u64 (v3 : Int) ((z2 : Int) * 65536) = (v2 : Int) := xr (m := 2) (r := leN [y3, y4, y5]) (by omega) b2 (s := v3) hv3 (s' := v2) (by rw [← hz2]; exact hv2) lv3 65536 (by decide)
  obtain ⟨v1, hv1⟩ : ∃ z, 2 ^ (8 * 1) * leN [y1, y2, y3, y4, y5] = z := ⟨_, rfl⟩
  have lv1 : v1 < 18446744073709551616 := by rw [← hv1]; exact part_lt 1 [y1, y2, y3, y4, y5] (by simp)
  have fv1 : bits .xor .u64 (v2 : Int) ((z1 : Int) * 256) = (v1 : Int) := xr (m := 1) (r := leN [y2, y3, y4, y5]) (by omega) b1 (s := v2) hv2 (s' := v1) (by rw [← hz1]; exact hv1) lv2 256 (by decide)
  obtain ⟨v0, hv0⟩ : ∃ z, 2 ^ (8 * 0) * leN [y0, y1, y2, y3, y4, y5] = z := ⟨_, rfl⟩
  have lv0 : v0 < 18446744073709551616 := by rw [← hv0]; exact part_lt 0 [y0, y1, y2, y3, y4, y5] (by simp)
  have fv0 : bits .xor .u64 (v1 : Int) (z0 : Int) = (v0 : Int) := by have h := xr (m := 0) (r := leN [y1, y2, y3, y4, y5]) (by omega) b0 (s := v1) hv1 (s' := v0) (by rw [← hz0]; exact hv0) lv1 1 (by decide); rw [show ((1 : Nat) : Int) = 1 from rfl, Int.mul_one] at h; exact h
  have hx : leN [y0, y1, y2, y3, y4, y5] = v0 := by rw [← hv0]; simp
  obtain ⟨a1, qa1⟩ : ∃ z, mulN v0 9782798678568883157 = z := ⟨_, rfl⟩
  have la1 : a1 < 18446744073709551616 := by rw [← qa1]; exact mulN_lt _ _
  have ea1 := mulC qa1
  have Qa1 := Lib.hid qa1
  obtain ⟨a2, qa2⟩ : ∃ z, rotN a1 31 = z := ⟨_, rfl⟩
  have la2 : a2 < 18446744073709551616 := by rw [← qa2]; exact rotN_lt _ la1
  have ea2 := rot31 la1 qa2
  have Qa2 := Lib.hid qa2
  obtain ⟨a3, qa3⟩ : ∃ z, mulN a2 5545529020109919103 = z := ⟨_, rfl⟩
  have la3 : a3 < 18446744073709551616 := by rw [← qa3]; exact mulN_lt _ _
  have ea3 := mulD qa3
  have Qa3 := Lib.hid qa3
  obtain ⟨hh, qhh⟩ : ∃ z, h ^^^ a3 = z := ⟨_, rfl⟩
  have lhh : hh < 18446744073709551616 := by rw [← qhh]; exact xor_lt lh la3
  have ehh := xorI lh la3 qhh
  have Qhh := Lib.hid qhh
  obtain ⟨c1', qc1'⟩ : ∃ z, hh ^^^ n = z := ⟨_, rfl⟩
  have lc1' : c1' < 18446744073709551616 := by rw [← qc1']; exact xor_lt lhh ln
  have ec1' := xorI lhh ln qc1'
  have Qc1' := Lib.hid qc1'
  obtain ⟨c2', qc2'⟩ : ∃ z, k ^^^ n = z := ⟨_, rfl⟩
  have lc2' : c2' < 18446744073709551616 := by rw [← qc2']; exact xor_lt lk ln
  have ec2' := xorI lk ln qc2'
  have Qc2' := Lib.hid qc2'
  obtain ⟨c3', qc3'⟩ : ∃ z, addN c1' c2' = z := ⟨_, rfl⟩
  have lc3' : c3' < 18446744073709551616 := by rw [← qc3']; exact addN_lt _ _
  have ec3' := addI qc3'
  have Qc3' := Lib.hid qc3'
  obtain ⟨c4', qc4'⟩ : ∃ z, addN c2' c3' = z := ⟨_, rfl⟩
  have lc4' : c4' < 18446744073709551616 := by rw [← qc4']; exact addN_lt _ _
  have ec4' := addI qc4'
  have Qc4' := Lib.hid qc4'
  obtain ⟨d1', qd1'⟩ : ∃ z, mixN c3' = z := ⟨_, rfl⟩
  have Qd1' := Lib.hid qd1'
  obtain ⟨d2', qd2'⟩ : ∃ z, mixN c4' = z := ⟨_, rfl⟩
  have Qd2' := Lib.hid qd2'
  obtain ⟨c5', qc5'⟩ : ∃ z, addN d1' d2' = z := ⟨_, rfl⟩
  have ec5' := addI qc5'
  obtain ⟨c6', qc6'⟩ : ∃ z, addN d2' c5' = z := ⟨_, rfl⟩
  have ec6' := addI qc6'
  have HEND : Hid (lastN (tailH h [y0, y1, y2, y3, y4, y5]) (tailK k [y0, y1, y2, y3, y4, y5]) n = c5') := by
    show _ = _
    rw [show tailK k [y0, y1, y2, y3, y4, y5] = k from rfl]
    rw [show tailH h [y0, y1, y2, y3, y4, y5] = h ^^^ mulN (rotN (mulN (leN [y0, y1, y2, y3, y4, y5]) 9782798678568883157) 31) 5545529020109919103 from rfl, hx, qa1, qa2, qa3, qhh]
    rw [lastN, qc1', qc2', qc3', qc4', qd1', qd2', qc5']
  have Ma1 := Lib.hid la1
  have Ma2 := Lib.hid la2
  have Ma3 := Lib.hid la3
  have Mhh := Lib.hid lhh
  have Mc1' := Lib.hid lc1'
  have Mc2' := Lib.hid lc2'
  have Mc3' := Lib.hid lc3'
  have Mc4' := Lib.hid lc4'
  clear qa1 qa2 qa3 qhh qc1' qc2' qc3' qc4' la1 la2 la3 lhh lc1' lc2' lc3' lc4' qd1' qd2' qc5' qc6' lh lk ln hx hv0 hv1 hv2 hv3 hv4 hv5 lv0 lv1 lv2 lv3 lv4 lv5 hz0 hz1 hz2 hz3 hz4 hz5
  go_enter Try.func36, Try.ntmps36
  go_wp2_with fail
  go_quiet (fail)
  go_upto_block 1 with fail
  apply wp_block
  apply exit_cut 10
  case h1 =>
    go_wp2
    exact ⟨rfl, rfl⟩
  (repeat first | refine inBlock_ne (by decide) ?_ | refine then_exit ?_)
  refine inBlock_eq ?_
  go_wp2_with (first | (go_at_call_of 37 (Value.int .u64 (c3' : Int)); refine (fmix_any c3' _ Mc3'.out).mono ?_; rw [Qd1'.out]; rintro e w' ⟨rfl, rfl⟩) | (go_at_call_of 37 (Value.int .u64 (c4' : Int)); refine (fmix_any c4' _ Mc4'.out).mono ?_; rw [Qd2'.out]; rintro e w' ⟨rfl, rfl⟩) | fail)
  go_ret2
  exact ⟨⟨_, by rw [HEND.out]; rfl⟩, _, rfl⟩
set_option maxRecDepth 100000 in
set_option maxHeartbeats 8000000 in
theorem sum_7 (g n h k : Nat) (bs : List Value) (y0 y1 y2 y3 y4 y5 y6 : UInt8) (w : World) (d : Dig w g n (.slice (some ⟨g, 2, none⟩) 7 16) bs h k) (hn : n ≤ 5000) (lh : h < 18446744073709551616) (lk : k < 18446744073709551616) (r0 : w.cell? ⟨g, 2, none⟩ = some (.int .u8 (y0.toNat : Int))) (r1 : w.cell? ⟨g, 3, none⟩ = some (.int .u8 (y1.toNat : Int))) (r2 : w.cell? ⟨g, 4, none⟩ = some (.int .u8 (y2.toNat : Int))) (r3 : w.cell? ⟨g, 5, none⟩ = some (.int .u8 (y3.toNat : Int))) (r4 : w.cell? ⟨g, 6, none⟩ = some (.int .u8 (y4.toNat : Int))) (r5 : w.cell? ⟨g, 7, none⟩ = some (.int .u8 (y5.toNat : Int))) (r6 : w.cell? ⟨g, 8, none⟩ = some (.int .u8 (y6.toNat : Int))) :
    Calls Try.prog 36 #[.pointer (some ⟨g, 0, none⟩)] w fun e w' => (∃ v, e = .returned (.tuple #[.int .u64 ((lastN (tailH h [y0, y1, y2, y3, y4, y5, y6]) (tailK k [y0, y1, y2, y3, y4, y5, y6]) n : Nat) : Int), v])) ∧ ∃ k, w' = w.drewN k := by
  have k0 := d.c0
  have k1 := d.c1
  have k20 := d.c20
  have k21 := d.c21
  have ln : n < 18446744073709551616 := by omega
  have en : IntKind.u64.wrap (n : Int) = (n : Int) := by rw [IntKind.wrap_u64]; omega
  have e15 : bits .and .i64 7 15 = 7 := and15 7 (by omega)
  clear d
  obtain ⟨z0, hz0⟩ : ∃ z, y0.toNat = z := ⟨_, rfl⟩
  have b0 : z0 < 256 := by rw [← hz0]; exact UInt8.toNat_lt _
  rw [hz0] at r0
  obtain ⟨z1, hz1⟩ : ∃ z, y1.toNat = z := ⟨_, rfl⟩
  have b1 : z1 < 256 := by rw [← hz1]; exact UInt8.toNat_lt _
  rw [hz1] at r1
  obtain ⟨z2, hz2⟩ : ∃ z, y2.toNat = z := ⟨_, rfl⟩
  have b2 : z2 < 256 := by rw [← hz2]; exact UInt8.toNat_lt _
  rw [hz2] at r2
  obtain ⟨z3, hz3⟩ : ∃ z, y3.toNat = z := ⟨_, rfl⟩
  have b3 : z3 < 256 := by rw [← hz3]; exact UInt8.toNat_lt _
  rw [hz3] at r3
  obtain ⟨z4, hz4⟩ : ∃ z, y4.toNat = z := ⟨_, rfl⟩
  have b4 : z4 < 256 := by rw [← hz4]; exact UInt8.toNat_lt _
  rw [hz4] at r4
  obtain ⟨z5, hz5⟩ : ∃ z, y5.toNat = z := ⟨_, rfl⟩
  have b5 : z5 < 256 := by rw [← hz5]; exact UInt8.toNat_lt _
  rw [hz5] at r5
  obtain ⟨z6, hz6⟩ : ∃ z, y6.toNat = z := ⟨_, rfl⟩
  have b6 : z6 < 256 := by rw [← hz6]; exact UInt8.toNat_lt _
  rw [hz6] at r6
  obtain ⟨v6, hv6⟩ : ∃ z, 2 ^ (8 * 6) * leN [y6] = z := ⟨_, rfl⟩
  have lv6 : v6 < 18446744073709551616 := by rw [← hv6]; exact part_lt 6 [y6] (by simp)
  have fv6 : bits .xor .u64 0 ((z6 : Int) * 281474976710656) = (v6 : Int) := xr (m := 6) (r := leN []) (by omega) b6 (s := 0) (by rfl) (s' := v6) (by rw [← hz6]; exact hv6) (by decide) 281474976710656 (by decide)
  obtain ⟨v5, hv5⟩ : ∃ z, 2 ^ (8 * 5) * leN [y5, y6] = z := ⟨_, rfl⟩
  have lv5 : v5 < 18446744073709551616 := by rw [← hv5]; exact part_lt 5 [y5, y6] (by simp)
  have fv5 : bits .xor .u64 (v6 : Int) ((z5 : Int) * 1099511627776) = (v5 : Int) := xr (m := 5) (r := leN [y6]) (by omega) b5 (s := v6) hv6 (s' := v5) (by rw [← hz5]; exact hv5) lv6 1099511627776 (by decide)
  obtain ⟨v4, hv4⟩ : ∃ z, 2 ^ (8 * 4) * leN [y4, y5, y6] = z := ⟨_, rfl⟩
  have lv4 : v4 < 18446744073709551616 := by rw [← hv4]; exact part_lt 4 [y4, y5, y6] (by simp)
  have fv4 : bits .xor .u64 (v5 : Int) ((z4 : Int) * 4294967296) = (v4 : Int) := xr (m := 4) (r := leN [y5, y6]) (by omega) b4 (s := v5) hv5 (s' := v4) (by rw [← hz4]; exact hv4) lv5 4294967296 (by decide)
  obtain ⟨v3, hv3⟩ : ∃ z, 2 ^ (8 * 3) * leN [y3, y4, y5, y6] = z := ⟨_, rfl⟩
  have lv3 : v3 < 18446744073709551616 := by rw [← hv3]; exact part_lt 3 [y3, y4, y5, y6] (by simp)
  have fv3 : bits .xor .u64 (v4 : Int) ((z3 : Int) * 16777216) = (v3 : Int) := xr (m := 3) (r := leN [y4, y5, y6]) (by omega) b3 (s := v4) hv4 (s' := v3) (by rw [← hz3]; exact hv3) lv4 16777216 (by decide)
  obtain ⟨v2, hv2⟩ : ∃ z, 2 ^ (8 * 2) * leN [y2, y3, y4, y5, y6] = z := ⟨_, rfl⟩
  have lv2 : v2 < 18446744073709551616 := by rw [← hv2]; exact part_lt 2 [y2, y3, y4, y5, y6] (by simp)
  have fv2 : bits .xor .u64 (v3 : Int) ((z2 : Int) * 65536) = (v2 : Int) := xr (m := 2) (r := leN [y3, y4, y5, y6]) (by omega) b2 (s := v3) hv3 (s' := v2) (by rw [← hz2]; exact hv2) lv3 65536 (by decide)
  obtain ⟨v1, hv1⟩ : ∃ z, 2 ^ (8 * 1) * leN [y1, y2, y3, y4, y5, y6] = z := ⟨_, rfl⟩
  have lv1 : v1 < 18446744073709551616 := by rw [← hv1]; exact part_lt 1 [y1, y2, y3, y4, y5, y6] (by simp)
  have fv1 : bits .xor .u64 (v2 : Int) ((z1 : Int) * 256) = (v1 : Int) := xr (m := 1) (r := leN [y2, y3, y4, y5, y6]) (by omega) b1 (s := v2) hv2 (s' := v1) (by rw [← hz1]; exact hv1) lv2 256 (by decide)
  obtain ⟨v0, hv0⟩ : ∃ z, 2 ^ (8 * 0) * leN [y0, y1, y2, y3, y4, y5, y6] = z := ⟨_, rfl⟩
  have lv0 : v0 < 18446744073709551616 := by rw [← hv0]; exact part_lt 0 [y0, y1, y2, y3, y4, y5, y6] (by simp)
  have fv0 : bits .xor .u64 (v1 : Int) (z0 : Int) = (v0 : Int) := by have h := xr (m := 0) (r := leN [y1, y2, y3, y4, y5, y6]) (by omega) b0 (s := v1) hv1 (s' := v0) (by rw [← hz0]; exact hv0) lv1 1 (by decide); rw [show ((1 : Nat) : Int) = 1 from rfl, Int.mul_one] at h; exact h
  have hx : leN [y0, y1, y2, y3, y4, y5, y6] = v0 := by rw [← hv0]; simp
  obtain ⟨a1, qa1⟩ : ∃ z, mulN v0 9782798678568883157 = z := ⟨_, rfl⟩
  have la1 : a1 < 18446744073709551616 := by rw [← qa1]; exact mulN_lt _ _
  have ea1 := mulC qa1
  have Qa1 := Lib.hid qa1
  obtain ⟨a2, qa2⟩ : ∃ z, rotN a1 31 = z := ⟨_, rfl⟩
  have la2 : a2 < 18446744073709551616 := by rw [← qa2]; exact rotN_lt _ la1
  have ea2 := rot31 la1 qa2
  have Qa2 := Lib.hid qa2
  obtain ⟨a3, qa3⟩ : ∃ z, mulN a2 5545529020109919103 = z := ⟨_, rfl⟩
  have la3 : a3 < 18446744073709551616 := by rw [← qa3]; exact mulN_lt _ _
  have ea3 := mulD qa3
  have Qa3 := Lib.hid qa3
  obtain ⟨hh, qhh⟩ : ∃ z, h ^^^ a3 = z := ⟨_, rfl⟩
  have lhh : hh < 18446744073709551616 := by rw [← qhh]; exact xor_lt lh la3
  have ehh := xorI lh la3 qhh
  have Qhh := Lib.hid qhh
  obtain ⟨c1', qc1'⟩ : ∃ z, hh ^^^ n = z := ⟨_, rfl⟩
  have lc1' : c1' < 18446744073709551616 := by rw [← qc1']; exact xor_lt lhh ln
  have ec1' := xorI lhh ln qc1'
  have Qc1' := Lib.hid qc1'
  obtain ⟨c2', qc2'⟩ : ∃ z, k ^^^ n = z := ⟨_, rfl⟩
  have lc2' : c2' < 18446744073709551616 := by rw [← qc2']; exact xor_lt lk ln
  have ec2' := xorI lk ln qc2'
  have Qc2' := Lib.hid qc2'
  obtain ⟨c3', qc3'⟩ : ∃ z, addN c1' c2' = z := ⟨_, rfl⟩
  have lc3' : c3' < 18446744073709551616 := by rw [← qc3']; exact addN_lt _ _
  have ec3' := addI qc3'
  have Qc3' := Lib.hid qc3'
  obtain ⟨c4', qc4'⟩ : ∃ z, addN c2' c3' = z := ⟨_, rfl⟩
  have lc4' : c4' < 18446744073709551616 := by rw [← qc4']; exact addN_lt _ _
  have ec4' := addI qc4'
  have Qc4' := Lib.hid qc4'
  obtain ⟨d1', qd1'⟩ : ∃ z, mixN c3' = z := ⟨_, rfl⟩
  have Qd1' := Lib.hid qd1'
  obtain ⟨d2', qd2'⟩ : ∃ z, mixN c4' = z := ⟨_, rfl⟩
  have Qd2' := Lib.hid qd2'
  obtain ⟨c5', qc5'⟩ : ∃ z, addN d1' d2' = z := ⟨_, rfl⟩
  have ec5' := addI qc5'
  obtain ⟨c6', qc6'⟩ : ∃ z, addN d2' c5' = z := ⟨_, rfl⟩
  have ec6' := addI qc6'
  have HEND : Hid (lastN (tailH h [y0, y1, y2, y3, y4, y5, y6]) (tailK k [y0, y1, y2, y3, y4, y5, y6]) n = c5') := by
    show _ = _
    rw [show tailK k [y0, y1, y2, y3, y4, y5, y6] = k from rfl]
    rw [show tailH h [y0, y1, y2, y3, y4, y5, y6] = h ^^^ mulN (rotN (mulN (leN [y0, y1, y2, y3, y4, y5, y6]) 9782798678568883157) 31) 5545529020109919103 from rfl, hx, qa1, qa2, qa3, qhh]
    rw [lastN, qc1', qc2', qc3', qc4', qd1', qd2', qc5']
  have Ma1 := Lib.hid la1
  have Ma2 := Lib.hid la2
  have Ma3 := Lib.hid la3
  have Mhh := Lib.hid lhh
  have Mc1' := Lib.hid lc1'
  have Mc2' := Lib.hid lc2'
  have Mc3' := Lib.hid lc3'
  have Mc4' := Lib.hid lc4'
  clear qa1 qa2 qa3 qhh qc1' qc2' qc3' qc4' la1 la2 la3 lhh lc1' lc2' lc3' lc4' qd1' qd2' qc5' qc6' lh lk ln hx hv0 hv1 hv2 hv3 hv4 hv5 hv6 lv0 lv1 lv2 lv3 lv4 lv5 lv6 hz0 hz1 hz2 hz3 hz4 hz5 hz6
  go_enter Try.func36, Try.ntmps36
  go_wp2_with fail
  go_quiet (fail)
  go_upto_block 1 with fail
  apply wp_block
  apply exit_cut 9
  case h1 =>
    go_wp2
    exact ⟨rfl, rfl⟩
  (repeat first | refine inBlock_ne (by decide) ?_ | refine then_exit ?_)
  refine inBlock_eq ?_
  go_wp2_with (first | (go_at_call_of 37 (Value.int .u64 (c3' : Int)); refine (fmix_any c3' _ Mc3'.out).mono ?_; rw [Qd1'.out]; rintro e w' ⟨rfl, rfl⟩) | (go_at_call_of 37 (Value.int .u64 (c4' : Int)); refine (fmix_any c4' _ Mc4'.out).mono ?_; rw [Qd2'.out]; rintro e w' ⟨rfl, rfl⟩) | fail)
  go_ret2
  exact ⟨⟨_, by rw [HEND.out]; rfl⟩, _, rfl⟩
set_option maxRecDepth 100000 in
set_option maxHeartbeats 8000000 in
theorem sum_8 (g n h k : Nat) (bs : List Value) (y0 y1 y2 y3 y4 y5 y6 y7 : UInt8) (w : World) (d : Dig w g n (.slice (some ⟨g, 2, none⟩) 8 16) bs h k) (hn : n ≤ 5000) (lh : h < 18446744073709551616) (lk : k < 18446744073709551616) (r0 : w.cell? ⟨g, 2, none⟩ = some (.int .u8 (y0.toNat : Int))) (r1 : w.cell? ⟨g, 3, none⟩ = some (.int .u8 (y1.toNat : Int))) (r2 : w.cell? ⟨g, 4, none⟩ = some (.int .u8 (y2.toNat : Int))) (r3 : w.cell? ⟨g, 5, none⟩ = some (.int .u8 (y3.toNat : Int))) (r4 : w.cell? ⟨g, 6, none⟩ = some (.int .u8 (y4.toNat : Int))) (r5 : w.cell? ⟨g, 7, none⟩ = some (.int .u8 (y5.toNat : Int))) (r6 : w.cell? ⟨g, 8, none⟩ = some (.int .u8 (y6.toNat : Int))) (r7 : w.cell? ⟨g, 9, none⟩ = some (.int .u8 (y7.toNat : Int))) :
    Calls Try.prog 36 #[.pointer (some ⟨g, 0, none⟩)] w fun e w' => (∃ v, e = .returned (.tuple #[.int .u64 ((lastN (tailH h [y0, y1, y2, y3, y4, y5, y6, y7]) (tailK k [y0, y1, y2, y3, y4, y5, y6, y7]) n : Nat) : Int), v])) ∧ ∃ k, w' = w.drewN k := by
  have k0 := d.c0
  have k1 := d.c1
  have k20 := d.c20
  have k21 := d.c21
  have ln : n < 18446744073709551616 := by omega
  have en : IntKind.u64.wrap (n : Int) = (n : Int) := by rw [IntKind.wrap_u64]; omega
  have e15 : bits .and .i64 8 15 = 8 := and15 8 (by omega)
  clear d
  obtain ⟨z0, hz0⟩ : ∃ z, y0.toNat = z := ⟨_, rfl⟩
  have b0 : z0 < 256 := by rw [← hz0]; exact UInt8.toNat_lt _
  rw [hz0] at r0
  obtain ⟨z1, hz1⟩ : ∃ z, y1.toNat = z := ⟨_, rfl⟩
  have b1 : z1 < 256 := by rw [← hz1]; exact UInt8.toNat_lt _
  rw [hz1] at r1
  obtain ⟨z2, hz2⟩ : ∃ z, y2.toNat = z := ⟨_, rfl⟩
  have b2 : z2 < 256 := by rw [← hz2]; exact UInt8.toNat_lt _
  rw [hz2] at r2
  obtain ⟨z3, hz3⟩ : ∃ z, y3.toNat = z := ⟨_, rfl⟩
  have b3 : z3 < 256 := by rw [← hz3]; exact UInt8.toNat_lt _
  rw [hz3] at r3
  obtain ⟨z4, hz4⟩ : ∃ z, y4.toNat = z := ⟨_, rfl⟩
  have b4 : z4 < 256 := by rw [← hz4]; exact UInt8.toNat_lt _
  rw [hz4] at r4
  obtain ⟨z5, hz5⟩ : ∃ z, y5.toNat = z := ⟨_, rfl⟩
  have b5 : z5 < 256 := by rw [← hz5]; exact UInt8.toNat_lt _
  rw [hz5] at r5
  obtain ⟨z6, hz6⟩ : ∃ z, y6.toNat = z := ⟨_, rfl⟩
  have b6 : z6 < 256 := by rw [← hz6]; exact UInt8.toNat_lt _
  rw [hz6] at r6
  obtain ⟨z7, hz7⟩ : ∃ z, y7.toNat = z := ⟨_, rfl⟩
  have b7 : z7 < 256 := by rw [← hz7]; exact UInt8.toNat_lt _
  rw [hz7] at r7
  obtain ⟨v7, hv7⟩ : ∃ z, 2 ^ (8 * 7) * leN [y7] = z := ⟨_, rfl⟩
  have lv7 : v7 < 18446744073709551616 := by rw [← hv7]; exact part_lt 7 [y7] (by simp)
  have fv7 : bits .xor .u64 0 ((z7 : Int) * 72057594037927936) = (v7 : Int) := xr (m := 7) (r := leN []) (by omega) b7 (s := 0) (by rfl) (s' := v7) (by rw [← hz7]; exact hv7) (by decide) 72057594037927936 (by decide)
  obtain ⟨v6, hv6⟩ : ∃ z, 2 ^ (8 * 6) * leN [y6, y7] = z := ⟨_, rfl⟩
  have lv6 : v6 < 18446744073709551616 := by rw [← hv6]; exact part_lt 6 [y6, y7] (by simp)
  have fv6 : bits .xor .u64 (v7 : Int) ((z6 : Int) * 281474976710656) = (v6 : Int) := xr (m := 6) (r := leN [y7]) (by omega) b6 (s := v7) hv7 (s' := v6) (by rw [← hz6]; exact hv6) lv7 281474976710656 (by decide)
  obtain ⟨v5, hv5⟩ : ∃ z, 2 ^ (8 * 5) * leN [y5, y6, y7] = z := ⟨_, rfl⟩
  have lv5 : v5 < 18446744073709551616 := by rw [← hv5]; exact part_lt 5 [y5, y6, y7] (by simp)
  have fv5 : bits .xor .u64 (v6 : Int) ((z5 : Int) * 1099511627776) = (v5 : Int) := xr (m := 5) (r := leN [y6, y7]) (by omega) b5 (s := v6) hv6 (s' := v5) (by rw [← hz5]; exact hv5) lv6 1099511627776 (by decide)
  obtain ⟨v4, hv4⟩ : ∃ z, 2 ^ (8 * 4) * leN [y4, y5, y6, y7] = z := ⟨_, rfl⟩
  have lv4 : v4 < 18446744073709551616 := by rw [← hv4]; exact part_lt 4 [y4, y5, y6, y7] (by simp)
  have fv4 : bits .xor .u64 (v5 : Int) ((z4 : Int) * 4294967296) = (v4 : Int) := xr (m := 4) (r := leN [y5, y6, y7]) (by omega) b4 (s := v5) hv5 (s' := v4) (by rw [← hz4]; exact hv4) lv5 4294967296 (by decide)
  obtain ⟨v3, hv3⟩ : ∃ z, 2 ^ (8 * 3) * leN [y3, y4, y5, y6, y7] = z := ⟨_, rfl⟩
  have lv3 : v3 < 18446744073709551616 := by rw [← hv3]; exact part_lt 3 [y3, y4, y5, y6, y7] (by simp)
  have fv3 : bits .xor .u64 (v4 : Int) ((z3 : Int) * 16777216) = (v3 : Int) := xr (m := 3) (r := leN [y4, y5, y6, y7]) (by omega) b3 (s := v4) hv4 (s' := v3) (by rw [← hz3]; exact hv3) lv4 16777216 (by decide)
  obtain ⟨v2, hv2⟩ : ∃ z, 2 ^ (8 * 2) * leN [y2, y3, y4, y5, y6, y7] = z := ⟨_, rfl⟩
  have lv2 : v2 < 18446744073709551616 := by rw [← hv2]; exact part_lt 2 [y2, y3, y4, y5, y6, y7] (by simp)
  have fv2 : bits .xor .u64 (v3 : Int) ((z2 : Int) * 65536) = (v2 : Int) := xr (m := 2) (r := leN [y3, y4, y5, y6, y7]) (by omega) b2 (s := v3) hv3 (s' := v2) (by rw [← hz2]; exact hv2) lv3 65536 (by decide)
  obtain ⟨v1, hv1⟩ : ∃ z, 2 ^ (8 * 1) * leN [y1, y2, y3, y4, y5, y6, y7] = z := ⟨_, rfl⟩
  have lv1 : v1 < 18446744073709551616 := by rw [← hv1]; exact part_lt 1 [y1, y2, y3, y4, y5, y6, y7] (by simp)
  have fv1 : bits .xor .u64 (v2 : Int) ((z1 : Int) * 256) = (v1 : Int) := xr (m := 1) (r := leN [y2, y3, y4, y5, y6, y7]) (by omega) b1 (s := v2) hv2 (s' := v1) (by rw [← hz1]; exact hv1) lv2 256 (by decide)
  obtain ⟨v0, hv0⟩ : ∃ z, 2 ^ (8 * 0) * leN [y0, y1, y2, y3, y4, y5, y6, y7] = z := ⟨_, rfl⟩
  have lv0 : v0 < 18446744073709551616 := by rw [← hv0]; exact part_lt 0 [y0, y1, y2, y3, y4, y5, y6, y7] (by simp)
  have fv0 : bits .xor .u64 (v1 : Int) (z0 : Int) = (v0 : Int) := by have h := xr (m := 0) (r := leN [y1, y2, y3, y4, y5, y6, y7]) (by omega) b0 (s := v1) hv1 (s' := v0) (by rw [← hz0]; exact hv0) lv1 1 (by decide); rw [show ((1 : Nat) : Int) = 1 from rfl, Int.mul_one] at h; exact h
  have hx : leN [y0, y1, y2, y3, y4, y5, y6, y7] = v0 := by rw [← hv0]; simp
  obtain ⟨a1, qa1⟩ : ∃ z, mulN v0 9782798678568883157 = z := ⟨_, rfl⟩
  have la1 : a1 < 18446744073709551616 := by rw [← qa1]; exact mulN_lt _ _
  have ea1 := mulC qa1
  have Qa1 := Lib.hid qa1
  obtain ⟨a2, qa2⟩ : ∃ z, rotN a1 31 = z := ⟨_, rfl⟩
  have la2 : a2 < 18446744073709551616 := by rw [← qa2]; exact rotN_lt _ la1
  have ea2 := rot31 la1 qa2
  have Qa2 := Lib.hid qa2
  obtain ⟨a3, qa3⟩ : ∃ z, mulN a2 5545529020109919103 = z := ⟨_, rfl⟩
  have la3 : a3 < 18446744073709551616 := by rw [← qa3]; exact mulN_lt _ _
  have ea3 := mulD qa3
  have Qa3 := Lib.hid qa3
  obtain ⟨hh, qhh⟩ : ∃ z, h ^^^ a3 = z := ⟨_, rfl⟩
  have lhh : hh < 18446744073709551616 := by rw [← qhh]; exact xor_lt lh la3
  have ehh := xorI lh la3 qhh
  have Qhh := Lib.hid qhh
  obtain ⟨c1', qc1'⟩ : ∃ z, hh ^^^ n = z := ⟨_, rfl⟩
  have lc1' : c1' < 18446744073709551616 := by rw [← qc1']; exact xor_lt lhh ln
  have ec1' := xorI lhh ln qc1'
  have Qc1' := Lib.hid qc1'
  obtain ⟨c2', qc2'⟩ : ∃ z, k ^^^ n = z := ⟨_, rfl⟩
  have lc2' : c2' < 18446744073709551616 := by rw [← qc2']; exact xor_lt lk ln
  have ec2' := xorI lk ln qc2'
  have Qc2' := Lib.hid qc2'
  obtain ⟨c3', qc3'⟩ : ∃ z, addN c1' c2' = z := ⟨_, rfl⟩
  have lc3' : c3' < 18446744073709551616 := by rw [← qc3']; exact addN_lt _ _
  have ec3' := addI qc3'
  have Qc3' := Lib.hid qc3'
  obtain ⟨c4', qc4'⟩ : ∃ z, addN c2' c3' = z := ⟨_, rfl⟩
  have lc4' : c4' < 18446744073709551616 := by rw [← qc4']; exact addN_lt _ _
  have ec4' := addI qc4'
  have Qc4' := Lib.hid qc4'
  obtain ⟨d1', qd1'⟩ : ∃ z, mixN c3' = z := ⟨_, rfl⟩
  have Qd1' := Lib.hid qd1'
  obtain ⟨d2', qd2'⟩ : ∃ z, mixN c4' = z := ⟨_, rfl⟩
  have Qd2' := Lib.hid qd2'
  obtain ⟨c5', qc5'⟩ : ∃ z, addN d1' d2' = z := ⟨_, rfl⟩
  have ec5' := addI qc5'
  obtain ⟨c6', qc6'⟩ : ∃ z, addN d2' c5' = z := ⟨_, rfl⟩
  have ec6' := addI qc6'
  have HEND : Hid (lastN (tailH h [y0, y1, y2, y3, y4, y5, y6, y7]) (tailK k [y0, y1, y2, y3, y4, y5, y6, y7]) n = c5') := by
    show _ = _
    rw [show tailK k [y0, y1, y2, y3, y4, y5, y6, y7] = k from rfl]
    rw [show tailH h [y0, y1, y2, y3, y4, y5, y6, y7] = h ^^^ mulN (rotN (mulN (leN [y0, y1, y2, y3, y4, y5, y6, y7]) 9782798678568883157) 31) 5545529020109919103 from rfl, hx, qa1, qa2, qa3, qhh]
    rw [lastN, qc1', qc2', qc3', qc4', qd1', qd2', qc5']
  have Ma1 := Lib.hid la1
  have Ma2 := Lib.hid la2
  have Ma3 := Lib.hid la3
  have Mhh := Lib.hid lhh
  have Mc1' := Lib.hid lc1'
  have Mc2' := Lib.hid lc2'
  have Mc3' := Lib.hid lc3'
  have Mc4' := Lib.hid lc4'
  clear qa1 qa2 qa3 qhh qc1' qc2' qc3' qc4' la1 la2 la3 lhh lc1' lc2' lc3' lc4' qd1' qd2' qc5' qc6' lh lk ln hx hv0 hv1 hv2 hv3 hv4 hv5 hv6 hv7 lv0 lv1 lv2 lv3 lv4 lv5 lv6 lv7 hz0 hz1 hz2 hz3 hz4 hz5 hz6 hz7
  go_enter Try.func36, Try.ntmps36
  go_wp2_with fail
  go_quiet (fail)
  go_upto_block 1 with fail
  apply wp_block
  apply exit_cut 8
  case h1 =>
    go_wp2
    exact ⟨rfl, rfl⟩
  (repeat first | refine inBlock_ne (by decide) ?_ | refine then_exit ?_)
  refine inBlock_eq ?_
  go_wp2_with (first | (go_at_call_of 37 (Value.int .u64 (c3' : Int)); refine (fmix_any c3' _ Mc3'.out).mono ?_; rw [Qd1'.out]; rintro e w' ⟨rfl, rfl⟩) | (go_at_call_of 37 (Value.int .u64 (c4' : Int)); refine (fmix_any c4' _ Mc4'.out).mono ?_; rw [Qd2'.out]; rintro e w' ⟨rfl, rfl⟩) | fail)
  go_ret2
  exact ⟨⟨_, by rw [HEND.out]; rfl⟩, _, rfl⟩
end Go.Proofs.Ytodffcoeimcdaaa
