/- murmur3: Sum128, tails of 14 to 15 bytes. -/
import Derived.Test.YtodffcoeimcdaaaMmG
namespace Go.Proofs.Ytodffcoeimcdaaa
open Go.RowKit Go.Lib

set_option maxRecDepth 100000 in
set_option maxHeartbeats 8000000 in
theorem sum_14 (g n h k : Nat) (bs : List Value) (y0 y1 y2 y3 y4 y5 y6 y7 y8 y9 y10 y11 y12 y13 : UInt8) (w : World) (d : Dig w g n (.slice (some ⟨g, 2, none⟩) 14 16) bs h k) (hn : n ≤ 5000) (lh : h < 18446744073709551616) (lk : k < 18446744073709551616) (r0 : w.cell? ⟨g, 2, none⟩ = some (.int .u8 (y0.toNat : Int))) (r1 : w.cell? ⟨g, 3, none⟩ = some (.int .u8 (y1.toNat : Int))) (r2 : w.cell? ⟨g, 4, none⟩ = some (.int .u8 (y2.toNat : Int))) (r3 : w.cell? ⟨g, 5, none⟩ = some (.int .u8 (y3.toNat : Int))) (r4 : w.cell? ⟨g, 6, none⟩ = some (.int .u8 (y4.toNat : Int))) (r5 : w.cell? ⟨g, 7, none⟩ = some (.int .u8 (y5.toNat : Int))) (r6 : w.cell? ⟨g, 8, none⟩ = some (.int .u8 (y6.toNat : Int))) (r7 : w.cell? ⟨g, 9, none⟩ = some (.int .u8 (y7.toNat : Int))) (r8 : w.cell? ⟨g, 10, none⟩ = some (.int .u8 (y8.toNat : Int))) (r9 : w.cell? ⟨g, 11, none⟩ = some (.int .u8 (y9.toNat : Int))) (r10 : w.cell? ⟨g, 12, none⟩ = some (.int .u8 (y10.toNat : Int))) (r11 : w.cell? ⟨g, 13, none⟩ = some (.int .u8 (y11.toNat : Int))) (r12 : w.cell? ⟨g, 14, none⟩ = some (.int .u8 (y12.toNat : Int))) (r13 : w.cell? ⟨g, 15, none⟩ = some (.int .u8 (y13.toNat : Int))) :
    Calls Try.prog 36 #[.pointer (some ⟨g, 0, none⟩)] w fun e w' => (∃ v, e = .returned (.tuple #[.int .u64 ((lastN (tailH h [y0, y1, y2, y3, y4, y5, y6, y7, y8, y9, y10, y11, y12, y13]) (tailK k [y0, y1, y2, y3, y4, y5, y6, y7, y8, y9, y10, y11, y12, y13]) n : Nat) : Int), v])) ∧ ∃ k, w' = w.drewN k := by
  have k0 := d.c0
  have k1 := d.c1
  have k20 := d.c20
  have k21 := d.c21
  have ln : n < 18446744073709551616 := by omega
  have en : IntKind.u64.wrap (n : Int) = (n : Int) := by rw [IntKind.wrap_u64]; omega
  have e15 : bits .and .i64 14 15 = 14 := and15 14 (by omega)
  clear d
  obtain ⟨z0, hz0⟩ : ∃ z, y0.toNat = z := ⟨_, rfl⟩
  have b0 : z0 < 256 := by rw [← hz0]; exact UInt8.toNat_lt _
  rw [hz0] at r0
  obtain ⟨z1, hz1⟩ : ∃ z, y1.toNat = z := ⟨_, rfl⟩
  have b1 : z1 < 256 := by rw [← hz1]; exact UInt8.toNat_lt _
  rw [hz1] at r1
  obtain ⟨z2, hz2⟩ : ∃ z, y2.toNat = z := ⟨_, rfl⟩
  have b2 : z2 < 256 := by rw [← hz2]; exact UInt8.toNat_lt _
  rw [hz2] at r2
  obtain ⟨z3, hz3⟩ : ∃ z, y3.toNat = z := ⟨_, rfl⟩
  have b3 : z3 < 256 := by rw [← hz3]; exact UInt8.toNat_lt _
  rw [hz3] at r3
  obtain ⟨z4, hz4⟩ : ∃ z, y4.toNat = z := ⟨_, rfl⟩
  have b4 : z4 < 256 := by rw [← hz4]; exact UInt8.toNat_lt _
  rw [hz4] at r4
  obtain ⟨z5, hz5⟩ : ∃ z, y5.toNat = z := ⟨_, rfl⟩
  have b5 : z5 < 256 := by rw [← hz5]; exact UInt8.toNat_lt _
  rw [hz5] at r5
  obtain ⟨z6, hz6⟩ : ∃ z, y6.toNat = z := ⟨_, rfl⟩
  have b6 : z6 < 256 := by rw [← hz6]; exact UInt8.toNat_lt _
  rw [hz6] at r6
  obtain ⟨z7, hz7⟩ : ∃ z, y7.toNat = z := ⟨_, rfl⟩
  have b7 : z7 < 256 := by rw [← hz7]; exact UInt8.toNat_lt _
  rw [hz7] at r7
  obtain ⟨z8, hz8⟩ : ∃ z, y8.toNat = z := ⟨_, rfl⟩
  have b8 : z8 < 256 := by rw [← hz8]; exact UInt8.toNat_lt _
  rw [hz8] at r8
  obtain ⟨z9, hz9⟩ : ∃ z, y9.toNat = z := ⟨_, rfl⟩
  have b9 : z9 < 256 := by rw [← hz9]; exact UInt8.toNat_lt _
  rw [hz9] at r9
  obtain ⟨z10, hz10⟩ : ∃ z, y10.toNat = z := ⟨_, rfl⟩
  have b10 : z10 < 256 := by rw [← hz10]; exact UInt8.toNat_lt _
  rw [hz10] at r10
  obtain ⟨z11, hz11⟩ : ∃ z, y11.toNat = z := ⟨_, rfl⟩
  have b11 : z11 < 256 := by rw [← hz11]; exact UInt8.toNat_lt _
  rw [hz11] at r11
  obtain ⟨z12, hz12⟩ : ∃ z, y12.toNat = z := ⟨_, rfl⟩
  have b12 : z12 < 256 := by rw [← hz12]; exact UInt8.toNat_lt _
  rw [hz12] at r12
  obtain ⟨z13, hz13⟩ : ∃ z, y13.toNat = z := ⟨_, rfl⟩
  have b13 : z13 < 256 := by rw [← hz13]; exact UInt8.toNat_lt _
  rw [hz13] at r13
  obtain ⟨u5, hu5⟩ : ∃ z, 2 ^ (8 * 5) * leN [y13] = z := ⟨_, rfl⟩
  have lu5 : u5 < 18446744073709551616 := by rw [← hu5]; exact part_lt 5 [y13] (by simp)
  have fu5 : bits .xor .u64 0 ((z13 : Int) * 1099511627776) = (u5 : Int) := xr (m := 5) (r := leN []) (by omega) b13 (s := 0) (by rfl) (s' := u5) (by rw [← hz13]; exact hu5) (by decide) 1099511627776 (by decide)
  obtain ⟨u4, hu4⟩ : ∃ z, 2 ^ (8 * 4) * leN [y12, y13] = z := ⟨_, rfl⟩
  have lu4 : u4 < 18446744073709551616 := by rw [← hu4]; exact part_lt 4 [y12, y13] (by simp)
  have fu4 : bits .xor .u64 (u5 : Int) ((z12 : Int) * 4294967296) = (u4 : Int) := xr (m := 4) (r := leN [y13]) (by omega) b12 (s := u5) hu5 (s' := u4) (by rw [← hz12]; exact hu4) lu5 4294967296 (by decide)
  obtain ⟨u3, hu3⟩ : ∃ z, 2 ^ (8 * 3) * leN [y11, y12, y13] = z := ⟨_, rfl⟩
  have lu3 : u3 < 18446744073709551616 := by rw [← hu3]; exact part_lt 3 [y11, y12, y13] (by simp)
  have fu3 : bits .xor .u64 (u4 : Int) ((z11 : Int) * 16777216) = (u3 : Int) := xr (m := 3) (r := leN [y12, y13]) (by omega) b11 (s := u4) hu4 (s' := u3) (by rw [← hz11]; exact hu3) lu4 16777216 (by decide)
  obtain ⟨u2, hu2⟩ : ∃ z, 2 ^ (8 * 2) * leN [y10, y11, y12, y13] = z := ⟨_, rfl⟩
  have lu2 : u2 < 18446744073709551616 := by rw [← hu2]; exact part_lt 2 [y10, y11, y12, y13] (by simp)
  have fu2 : bits .xor .u64 (u3 : Int) ((z10 : Int) * 65536) = (u2 : Int) := xr (m := 2) (r := leN [y11, y12, y13]) (by omega) b10 (s := u3) hu3 (s' := u2) (by rw [← hz10]; exact hu2) lu3 65536 (by decide)
  obtain ⟨u1, hu1⟩ : ∃ z, 2 ^ (8 * 1) * leN [y9, y10, y11, y12, y13] = z := ⟨_, rfl⟩
  have lu1 : u1 < 18446744073709551616 := by rw [← hu1]; exact part_lt 1 [y9, y10, y11, y12, y13] (by simp)
  have fu1 : bits .xor .u64 (u2 : Int) ((z9 : Int) * 256) = (u1 : Int) := xr (m := 1) (r := leN [y10, y11, y12, y13]) (by omega) b9 (s := u2) hu2 (s' := u1) (by rw [← hz9]; exact hu1) lu2 256 (by decide)
  obtain ⟨u0, hu0⟩ : ∃ z, 2 ^ (8 * 0) * leN [y8, y9, y10, y11, y12, y13] = z := ⟨_, rfl⟩
  have lu0 : u0 < 18446744073709551616 := by rw [← hu0]; exact part_lt 0 [y8, y9, y10, y11, y12, y13] (by simp)
  have fu0 : bits .xor .u64 (u1 : Int) (z8 : Int) = (u0 : Int) := by have h := xr (m := 0) (r := leN [y9, y10, y11, y12, y13]) (by omega) b8 (s := u1) hu1 (s' := u0) (by rw [← hz8]; exact hu0) lu1 1 (by decide); rw [show ((1 : Nat) : Int) = 1 from rfl, Int.mul_one] at h; exact h
  have hy : leN [y8, y9, y10, y11, y12, y13] = u0 := by rw [← hu0]; simp
  obtain ⟨v7, hv7⟩ : ∃ z, 2 ^ (8 * 7) * leN [y7] = z := ⟨_, rfl⟩
  have lv7 : v7 < 18446744073709551616 := by rw [← hv7]; exact part_lt 7 [y7] (by simp)
  have fv7 : bits .xor .u64 0 ((z7 : Int) * 72057594037927936) = (v7 : Int) := xr (m := 7) (r := leN []) (by omega) b7 (s := 0) (by rfl) (s' := v7) (by rw [← hz7]; exact hv7) (by decide) 72057594037927936 (by decide)
  obtain ⟨v6, hv6⟩ : ∃ z, 2 ^ (8 * 6) * leN [y6, y7] = z := ⟨_, rfl⟩
  have lv6 : v6 < 18446744073709551616 := by rw [← hv6]; exact part_lt 6 [y6, y7] (by simp)
  have fv6 : bits .xor .u64 (v7 : Int) ((z6 : Int) * 281474976710656) = (v6 : Int) := xr (m := 6) (r := leN [y7]) (by omega) b6 (s := v7) hv7 (s' := v6) (by rw [← hz6]; exact hv6) lv7 281474976710656 (by decide)
  obtain ⟨v5, hv5⟩ : ∃ z, 2 ^ (8 * 5) * leN [y5, y6, y7] = z := ⟨_, rfl⟩
  have lv5 : v5 < 18446744073709551616 := by rw [← hv5]; exact part_lt 5 [y5, y6, y7] (by simp)
  have fv5 : bits .xor .u64 (v6 : Int) ((z5 : Int) * 1099511627776) = (v5 : Int) := xr (m := 5) (r := leN [y6, y7]) (by omega) b5 (s := v6) hv6 (s' := v5) (by rw [← hz5]; exact hv5) lv6 1099511627776 (by decide)
  obtain ⟨v4, hv4⟩ : ∃ z, 2 ^ (8 * 4) * leN [y4, y5, y6, y7] = z := ⟨_, rfl⟩
  have lv4 : v4 < 18446744073709551616 := by rw [← hv4]; exact part_lt 4 [y4, y5, y6, y7] (by simp)
  have fv4 : bits .xor .u64 (v5 : Int) ((z4 : Int) * 4294967296) = (v4 : Int) := xr (m := 4) (r := leN [y5, y6, y7]) (by omega) b4 (s := v5) hv5 (s' := v4) (by rw [← hz4]; exact hv4) lv5 4294967296 (by decide)
  obtain ⟨v3, hv3⟩ : ∃ z, 2 ^ (8 * 3) * leN [y3, y4, y5, y6, y7] = z := ⟨_, rfl⟩
  have lv3 : v3 < 18446744073709551616 := by rw [← hv3]; exact part_lt 3 [y3, y4, y5, y6, y7] (by simp)
  have fv3 : bits .xor .u64 (v4 : Int) ((z3 : Int) * 16777216) = (v3 : Int) := xr (m := 3) (r := leN [y4, y5, y6, y7]) (by omega) b3 (s := v4) hv4 (s' := v3) (by rw [← hz3]; exact hv3) lv4 16777216 (by decide)
  obtain ⟨v2, hv2⟩ : ∃ z, 2 ^ (8 * 2) * leN [y2, y3, y4, y5, y6, y7] = z := ⟨_, rfl⟩
  have lv2 : v2 < 18446744073709551616 := by rw [← hv2]; exact part_lt 2 [y2, y3, y4, y5, y6, y7] (by simp)
  have fv2 : bits .xor .u64 (v3 : Int) ((z2 : Int) * 65536) = (v2 : Int) := xr (m := 2) (r := leN [y3, y4, y5, y6, y7]) (by omega) b2 (s := v3) hv3 (s' := v2) (by rw [← hz2]; exact hv2) lv3 65536 (by decide)
  obtain ⟨v1, hv1⟩ : ∃ z, 2 ^ (8 * 1) * leN [y1, y2, y3, y4, y5, y6, y7] = z := ⟨_, rfl⟩
  have lv1 : v1 < 18446744073709551616 := by rw [← hv1]; exact part_lt 1 [y1, y2, y3, y4, y5, y6, y7] (by simp)
  have fv1 : bits .xor .u64 (v2 : Int) ((z1 : Int) * 256) = (v1 : Int) := xr (m := 1) (r := leN [y2, y3, y4, y5, y6, y7]) (by omega) b1 (s := v2) hv2 (s' := v1) (by rw [← hz1]; exact hv1) lv2 256 (by decide)
  obtain ⟨v0, hv0⟩ : ∃ z, 2 ^ (8 * 0) * leN [y0, y1, y2, y3, y4, y5, y6, y7] = z := ⟨_, rfl⟩
  have lv0 : v0 < 18446744073709551616 := by rw [← hv0]; exact part_lt 0 [y0, y1, y2, y3, y4, y5, y6, y7] (by simp)
  have fv0 : bits .xor .u64 (v1 : Int) (z0 : Int) = (v0 : Int) := by have h := xr (m := 0) (r := leN [y1, y2, y3, y4, y5, y6, y7]) (by omega) b0 (s := v1) hv1 (s' := v0) (by rw [← hz0]; exact hv0) lv1 1 (by decide); rw [show ((1 : Nat) : Int) = 1 from rfl, Int.mul_one] at h; exact h
  have hx : leN [y0, y1, y2, y3, y4, y5, y6, y7] = v0 := by rw [← hv0]; simp
  obtain ⟨a1, qa1⟩ : ∃ z, mulN v0 9782798678568883157 = z := ⟨_, rfl⟩
  have la1 : a1 < 18446744073709551616 := by rw [← qa1]; exact mulN_lt _ _
  have ea1 := mulC qa1
  have Qa1 := Lib.hid qa1
  obtain ⟨a2, qa2⟩ : ∃ z, rotN a1 31 = z := ⟨_, rfl⟩
  have la2 : a2 < 18446744073709551616 := by rw [← qa2]; exact rotN_lt _ la1
  have ea2 := rot31 la1 qa2
  have Qa2 := Lib.hid qa2
  obtain ⟨a3, qa3⟩ : ∃ z, mulN a2 5545529020109919103 = z := ⟨_, rfl⟩
  have la3 : a3 < 18446744073709551616 := by rw [← qa3]; exact mulN_lt _ _
  have ea3 := mulD qa3
  have Qa3 := Lib.hid qa3
  obtain ⟨hh, qhh⟩ : ∃ z, h ^^^ a3 = z := ⟨_, rfl⟩
  have lhh : hh < 18446744073709551616 := by rw [← qhh]; exact xor_lt lh la3
  have ehh := xorI lh la3 qhh
  have Qhh := Lib.hid qhh
  obtain ⟨b1', qb1'⟩ : ∃ z, mulN u0 5545529020109919103 = z := ⟨_, rfl⟩
  have lb1' : b1' < 18446744073709551616 := by rw [← qb1']; exact mulN_lt _ _
  have eb1' := mulD qb1'
  have Qb1' := Lib.hid qb1'
  obtain ⟨b2', qb2'⟩ : ∃ z, rotN b1' 33 = z := ⟨_, rfl⟩
  have lb2' : b2' < 18446744073709551616 := by rw [← qb2']; exact rotN_lt _ lb1'
  have eb2' := rot33 lb1' qb2'
  have Qb2' := Lib.hid qb2'
  obtain ⟨b3', qb3'⟩ : ∃ z, mulN b2' 9782798678568883157 = z := ⟨_, rfl⟩
  have lb3' : b3' < 18446744073709551616 := by rw [← qb3']; exact mulN_lt _ _
  have eb3' := mulC qb3'
  have Qb3' := Lib.hid qb3'
  obtain ⟨kk, qkk⟩ : ∃ z, k ^^^ b3' = z := ⟨_, rfl⟩
  have lkk : kk < 18446744073709551616 := by rw [← qkk]; exact xor_lt lk lb3'
  have ekk := xorI lk lb3' qkk
  have Qkk := Lib.hid qkk
  obtain ⟨c1', qc1'⟩ : ∃ z, hh ^^^ n = z := ⟨_, rfl⟩
  have lc1' : c1' < 18446744073709551616 := by rw [← qc1']; exact xor_lt lhh ln
  have ec1' := xorI lhh ln qc1'
  have Qc1' := Lib.hid qc1'
  obtain ⟨c2', qc2'⟩ : ∃ z, kk ^^^ n = z := ⟨_, rfl⟩
  have lc2' : c2' < 18446744073709551616 := by rw [← qc2']; exact xor_lt lkk ln
  have ec2' := xorI lkk ln qc2'
  have Qc2' := Lib.hid qc2'
  obtain ⟨c3', qc3'⟩ : ∃ z, addN c1' c2' = z := ⟨_, rfl⟩
  have lc3' : c3' < 18446744073709551616 := by rw [← qc3']; exact addN_lt _ _
  have ec3' := addI qc3'
  have Qc3' := Lib.hid qc3'
  obtain ⟨c4', qc4'⟩ : ∃ z, addN c2' c3' = z := ⟨_, rfl⟩
  have lc4' : c4' < 18446744073709551616 := by rw [← qc4']; exact addN_lt _ _
  have ec4' := addI qc4'
  have Qc4' := Lib.hid qc4'
  obtain ⟨d1', qd1'⟩ : ∃ z, mixN c3' = z := ⟨_, rfl⟩
  have Qd1' := Lib.hid qd1'
  obtain ⟨d2', qd2'⟩ : ∃ z, mixN c4' = z := ⟨_, rfl⟩
  have Qd2' := Lib.hid qd2'
  obtain ⟨c5', qc5'⟩ : ∃ z, addN d1' d2' = z := ⟨_, rfl⟩
  have ec5' := addI qc5'
  obtain ⟨c6', qc6'⟩ : ∃ z, addN d2' c5' = z := ⟨_, rfl⟩
  have ec6' := addI qc6'
  have HEND : Hid (lastN (tailH h [y0, y1, y2, y3, y4, y5, y6, y7, y8, y9, y10, y11, y12, y13]) (tailK k [y0, y1, y2, y3, y4, y5, y6, y7, y8, y9, y10, y11, y12, y13]) n = c5') := by
    show _ = _
    rw [show tailK k [y0, y1, y2, y3, y4, y5, y6, y7, y8, y9, y10, y11, y12, y13] = k ^^^ mulN (rotN (mulN (leN [y8, y9, y10, y11, y12, y13]) 5545529020109919103) 33) 9782798678568883157 from rfl, hy, qb1', qb2', qb3', qkk]
    rw [show tailH h [y0, y1, y2, y3, y4, y5, y6, y7, y8, y9, y10, y11, y12, y13] = h ^^^ mulN (rotN (mulN (leN [y0, y1, y2, y3, y4, y5, y6, y7]) 9782798678568883157) 31) 5545529020109919103 from rfl, hx, qa1, qa2, qa3, qhh]
    rw [lastN, qc1', qc2', qc3', qc4', qd1', qd2', qc5']
  have Ma1 := Lib.hid la1
  have Ma2 := Lib.hid la2
  have Ma3 := Lib.hid la3
  have Mhh := Lib.hid lhh
  have Mb1' := Lib.hid lb1'
  have Mb2' := Lib.hid lb2'
  have Mb3' := Lib.hid lb3'
  have Mkk := Lib.hid lkk
  have Mc1' := Lib.hid lc1'
  have Mc2' := Lib.hid lc2'
  have Mc3' := Lib.hid lc3'
  have Mc4' := Lib.hid lc4'
  clear qa1 qa2 qa3 qhh qb1' qb2' qb3' qkk qc1' qc2' qc3' qc4' la1 la2 la3 lhh lb1' lb2' lb3' lkk lc1' lc2' lc3' lc4' qd1' qd2' qc5' qc6' lh lk ln hy hu0 hu1 hu2 hu3 hu4 hu5 lu0 lu1 lu2 lu3 lu4 lu5 hx hv0 hv1 hv2 hv3 hv4 hv5 hv6 hv7 lv0 lv1 lv2 lv3 lv4 lv5 lv6 lv7 hz0 hz1 hz2 hz3 hz4 hz5 hz6 hz7 hz8 hz9 hz10 hz11 hz12 hz13
  go_enter Try.func36, Try.ntmps36
  go_wp2_with fail
  go_quiet (fail)
  go_upto_block 1 with fail
  apply wp_block
  apply exit_cut 2
  case h1 =>
    go_wp2
    exact ⟨rfl, rfl⟩
  (repeat first | refine inBlock_ne (by decide) ?_ | refine then_exit ?_)
  refine inBlock_eq ?_
  go_wp2_with (first | (go_at_call_of 37 (Value.int .u64 (c3' : Int)); refine (fmix_any c3' _ Mc3'.out).mono ?_; rw [Qd1'.out]; rintro e w' ⟨rfl, rfl⟩) | (go_at_call_of 37 (Value.int .u64 (c4' : Int)); refine (fmix_any c4' _ Mc4'.out).mono ?_; rw [Qd2'.out]; rintro e w' ⟨rfl, rfl⟩) | fail)
  go_ret2
  exact ⟨⟨_, by rw [HEND.out]; rfl⟩, _, rfl⟩
set_option maxRecDepth 100000 in
set_option maxHeartbeats 8000000 in
theorem sum_15 (g n h k : Nat) (bs : List Value) (y0 y1 y2 y3 y4 y5 y6 y7 y8 y9 y10 y11 y12 y13 y14 : UInt8) (w : World) (d : Dig w g n (.slice (some ⟨g, 2, none⟩) 15 16) bs h k) (hn : n ≤ 5000) (lh : h < 18446744073709551616) (lk : k < 18446744073709551616) (r0 : w.cell? ⟨g, 2, none⟩ = some (.int .u8 (y0.toNat : Int))) (r1 : w.cell? ⟨g, 3, none⟩ = some (.int .u8 (y1.toNat : Int))) (r2 : w.cell? ⟨g, 4, none⟩ = some (.int .u8 (y2.toNat : Int))) (r3 : w.cell? ⟨g, 5, none⟩ = some (.int .u8 (y3.toNat : Int))) (r4 : w.cell? ⟨g, 6, none⟩ = some (.int .u8 (y4.toNat : Int))) (r5 : w.cell? ⟨g, 7, none⟩ = some (.int .u8 (y5.toNat : Int))) (r6 : w.cell? ⟨g, 8, none⟩ = some (.int .u8 (y6.toNat : Int))) (r7 : w.cell? ⟨g, 9, none⟩ = some (.int .u8 (y7.toNat : Int))) (r8 : w.cell? ⟨g, 10, none⟩ = some (.int .u8 (y8.toNat : Int))) (r9 : w.cell? ⟨g, 11, none⟩ = some (.int .u8 (y9.toNat : Int))) (r10 : w.cell? ⟨g, 12, none⟩ = some (.int .u8 (y10.toNat : Int))) (r11 : w.cell? ⟨g, 13, none⟩ = some (.int .u8 (y11.toNat : Int))) (r12 : w.cell? ⟨g, 14, none⟩ = some (.int .u8 (y12.toNat : Int))) (r13 : w.cell? ⟨g, 15, none⟩ = some (.int .u8 (y13.toNat : Int))) (r14 : w.cell? ⟨g, 16, none⟩ = some (.int .u8 (y14.toNat : Int))) :
    Calls Try.prog 36 #[.pointer (some ⟨g, 0, none⟩)] w fun e w' => (∃ v, e = .returned (.tuple #[.int .u64 ((lastN (tailH h [y0, y1, y2, y3, y4, y5, y6, y7, y8, y9, y10, y11, y12, y13, y14]) (tailK k [y0, y1, y2, y3, y4, y5, y6, y7, y8, y9, y10, y11, y12, y13, y14]) n : Nat) : Int), v])) ∧ ∃ k, w' = w.drewN k := by
  have k0 := d.c0
  have k1 := d.c1
  have k20 := d.c20
  have k21 := d.c21
  have ln : n < 18446744073709551616 := by omega
  have en : IntKind.u64.wrap (n : Int) = (n : Int) := by rw [IntKind.wrap_u64]; omega
  have e15 : bits .and .i64 15 15 = 15 := and15 15 (by omega)
  clear d
  obtain ⟨z0, hz0⟩ : ∃ z, y0.toNat = z := ⟨_, rfl⟩
  have b0 : z0 < 256 := by rw [← hz0]; exact UInt8.toNat_lt _
  rw [hz0] at r0
  obtain ⟨z1, hz1⟩ : ∃ z, y1.toNat = z := ⟨_, rfl⟩
  have b1 : z1 < 256 := by rw [← hz1]; exact UInt8.toNat_lt _
  rw [hz1] at r1
  obtain ⟨z2, hz2⟩ : ∃ z, y2.toNat = z := ⟨_, rfl⟩
  have b2 : z2 < 256 := by rw [← hz2]; exact UInt8.toNat_lt _
  rw [hz2] at r2
  obtain ⟨z3, hz3⟩ : ∃ z, y3.toNat = z := ⟨_, rfl⟩
  have b3 : z3 < 256 := by rw [← hz3]; exact UInt8.toNat_lt _
  rw [hz3] at r3
  obtain ⟨z4, hz4⟩ : ∃ z, y4.toNat = z := ⟨_, rfl⟩
  have b4 : z4 < 256 := by rw [← hz4]; exact UInt8.toNat_lt _
  rw [hz4] at r4
  obtain ⟨z5, hz5⟩ : ∃ z, y5.toNat = z := ⟨_, rfl⟩
  have b5 : z5 < 256 := by rw [← hz5]; exact UInt8.toNat_lt _
  rw [hz5] at r5
  obtain ⟨z6, hz6⟩ : ∃ z, y6.toNat = z := ⟨_, rfl⟩
  have b6 : z6 < 256 := by rw [← hz6]; exact UInt8.toNat_lt _
  rw [hz6] at r6
  obtain ⟨z7, hz7⟩ : ∃ z, y7.toNat = z := ⟨_, rfl⟩
  have b7 : z7 < 256 := by rw [← hz7]; exact UInt8.toNat_lt _
  rw [hz7] at r7
  obtain ⟨z8, hz8⟩ : ∃ z, y8.toNat = z := ⟨_, rfl⟩
  have b8 : z8 < 256 := by rw [← hz8]; exact UInt8.toNat_lt _
  rw [hz8] at r8
  obtain ⟨z9, hz9⟩ : ∃ z, y9.toNat = z := ⟨_, rfl⟩
  have b9 : z9 < 256 := by rw [← hz9]; exact UInt8.toNat_lt _
  rw [hz9] at r9
  obtain ⟨z10, hz10⟩ : ∃ z, y10.toNat = z := ⟨_, rfl⟩
  have b10 : z10 < 256 := by rw [← hz10]; exact UInt8.toNat_lt _
  rw [hz10] at r10
  obtain ⟨z11, hz11⟩ : ∃ z, y11.toNat = z := ⟨_, rfl⟩
  have b11 : z11 < 256 := by rw [← hz11]; exact UInt8.toNat_lt _
  rw [hz11] at r11
  obtain ⟨z12, hz12⟩ : ∃ z, y12.toNat = z := ⟨_, rfl⟩
  have b12 : z12 < 256 := by rw [← hz12]; exact UInt8.toNat_lt _
  rw [hz12] at r12
  obtain ⟨z13, hz13⟩ : ∃ z, y13.toNat = z := ⟨_, rfl⟩
  have b13 : z13 < 256 := by rw [← hz13]; exact UInt8.toNat_lt _
  rw [hz13] at r13
  obtain ⟨z14, hz14⟩ : ∃ z, y14.toNat = z := ⟨_, rfl⟩
  have b14 : z14 < 256 := by rw [← hz14]; exact UInt8.toNat_lt _
  rw [hz14] at r14
  obtain ⟨u6, hu6⟩ : ∃ z, 2 ^ (8 * 6) * leN [y14] = z := ⟨_, rfl⟩
  have lu6 : u6 < 18446744073709551616 := by rw [← hu6]; exact part_lt 6 [y14] (by simp)
  have fu6 : bits .xor .u64 0 ((z14 : Int) * 281474976710656) = (u6 : Int) := xr (m := 6) (r := leN []) (by omega) b14 (s := 0) (by rfl) (s' := u6) (by rw [← hz14]; exact hu6) (by decide) 281474976710656 (by decide)
  obtain ⟨u5, hu5⟩ : ∃ z, 2 ^ (8 * 5) * leN [y13, y14] = z := ⟨_, rfl⟩
  have lu5 : u5 < 18446744073709551616 := by rw [← hu5]; exact part_lt 5 [y13, y14] (by simp)
  have fu5 : bits .xor .u64 (u6 : Int) ((z13 : Int) * 1099511627776) = (u5 : Int) := xr (m := 5) (r := leN [y14]) (by omega) b13 (s := u6) hu6 (s' := u5) (by rw [← hz13]; exact hu5) lu6 1099511627776 (by decide)
  obtain ⟨u4, hu4⟩ : ∃ z, 2 ^ (8 * 4) * leN [y12, y13, y14] = z := ⟨_, rfl⟩
  have lu4 : u4 < 18446744073709551616 := by rw [← hu4]; exact part_lt 4 [y12, y13, y14] (by simp)
  have fu4 : bits .xor .u64 (u5 : Int) ((z12 : Int) * 4294967296) = (u4 : Int) := xr (m := 4) (r := leN [y13, y14]) (by omega) b12 (s := u5) hu5 (s' := u4) (by rw [← hz12]; exact hu4) lu5 4294967296 (by decide)
  obtain ⟨u3, hu3⟩ : ∃ z, 2 ^ (8 * 3) * leN [y11, y12, y13, y14] = z := ⟨_, rfl⟩
  have lu3 : u3 < 18446744073709551616 := by rw [← hu3]; exact part_lt 3 [y11, y12, y13, y14] (by simp)
  have fu3 : bits .xor .u64 (u4 : Int) ((z11 : Int) * 16777216) = (u3 : Int) := xr (m := 3) (r := leN [y12, y13, y14]) (by omega) b11 (s := u4) hu4 (s' := u3) (by rw [← hz11]; exact hu3) lu4 16777216 (by decide)
  obtain ⟨u2, hu2⟩ : ∃ z, 2 ^ (8 * 2) * leN [y10, y11, y12, y13, y14] = z := ⟨_, rfl⟩
  have lu2 : u2 < 18446744073709551616 := by rw [← hu2]; exact part_lt 2 [y10, y11, y12, y13, y14] (by simp)
  have fu2 : bits .xor .u64 (u3 : Int) ((z10 : Int) * 65536) = (u2 : Int) := xr (m := 2) (r := leN [y11, y12, y13, y14]) (by omega) b10 (s := u3) hu3 (s' := u2) (by rw [← hz10]; exact hu2) lu3 65536 (by decide)
  obtain ⟨u1, hu1⟩ : ∃ z, 2 ^ (8 * 1) * leN [y9, y10, y11, y12, y13, y14] = z := ⟨_, rfl⟩
  have lu1 : u1 < 18446744073709551616 := by rw [← hu1]; exact part_lt 1 [y9, y10, y11, y12, y13, y14] (by simp)
  have fu1 : bits .xor .u64 (u2 : Int) ((z9 : Int) * 256) = (u1 : Int) := xr (m := 1) (r := leN [y10, y11, y12, y13, y14]) (by omega) b9 (s := u2) hu2 (s' := u1) (by rw [← hz9]; exact hu1) lu2 256 (by decide)
  obtain ⟨u0, hu0⟩ : ∃ z, 2 ^ (8 * 0) * leN [y8, y9, y10, y11, y12, y13, y14] = z := ⟨_, rfl⟩
  have lu0 : u0 < 18446744073709551616 := by rw [← hu0]; exact part_lt 0 [y8, y9, y10, y11, y12, y13, y14] (by simp)
  have fu0 : bits .xor .u64 (u1 : Int) (z8 : Int) = (u0 : Int) := by have h := xr (m := 0) (r := leN [y9, y10, y11, y12, y13, y14]) (by omega) b8 (s := u1) hu1 (s' := u0) (by rw [← hz8]; exact hu0) lu1 1 (by decide); rw [show ((1 : Nat) : Int) = 1 from rfl, Int.mul_one] at h; exact h
  have hy : leN [y8, y9, y10, y11, y12, y13, y14] = u0 := by rw [← hu0]; simp
  obtain ⟨v7, hv7⟩ : ∃ z, 2 ^ (8 * 7) * leN [y7] = z := ⟨_, rfl⟩
  have lv7 : v7 < 18446744073709551616 := by rw [← hv7]; exact part_lt 7 [y7] (by simp)
  have fv7 : bits .xor .u64 0 ((z7 : Int) * 72057594037927936) = (v7 : Int) := xr (m := 7) (r := leN []) (by omega) b7 (s := 0) (by rfl) (s' := v7) (by rw [← hz7]; exact hv7) (by decide) 72057594037927936 (by decide)
  obtain ⟨v6, hv6⟩ : ∃ z, 2 ^ (8 * 6) * leN [y6, y7] = z := ⟨_, rfl⟩
  have lv6 : v6 < 18446744073709551616 := by rw [← hv6]; exact part_lt 6 [y6, y7] (by simp)
  have fv6 : bits .xor .u64 (v7 : Int) ((z6 : Int) * 281474976710656) = (v6 : Int) := xr (m := 6) (r := leN [y7]) (by omega) b6 (s := v7) hv7 (s' := v6) (by rw [← hz6]; exact hv6) lv7 281474976710656 (by decide)
  obtain ⟨v5, hv5⟩ : ∃ z, 2 ^ (8 * 5) * leN [y5, y6, y7] = z := ⟨_, rfl⟩
  have lv5 : v5 < 18446744073709551616 := by rw [← hv5]; exact part_lt 5 [y5, y6, y7] (by simp)
  have fv5 : bits .xor .u64 (v6 : Int) ((z5 : Int) * 1099511627776) = (v5 : Int) := xr (m := 5) (r := leN [y6, y7]) (by omega) b5 (s := v6) hv6 (s' := v5) (by rw [← hz5]; exact hv5) lv6 1099511627776 (by decide)
  obtain ⟨v4, hv4⟩ : ∃ z, 2 ^ (8 * 4) * leN [y4, y5, y6, y7] = z := ⟨_, rfl⟩
  have lv4 : v4 < 18446744073709551616 := by rw [← hv4]; exact part_lt 4 [y4, y5, y6, y7] (by simp)
  have fv4 : bits .xor .u64 (v5 : Int) ((z4 : Int) * 4294967296) = (v4 : Int) := xr (m := 4) (r := leN [y5, y6, y7]) (by omega) b4 (s := v5) hv5 (s' := v4) (by rw [← hz4]; exact hv4) lv5 4294967296 (by decide)
  obtain ⟨v3, hv3⟩ : ∃ z, 2 ^ (8 * 3) * leN [y3, y4, y5, y6, y7] = z := ⟨_, rfl⟩
  have lv3 : v3 < 18446744073709551616 := by rw [← hv3]; exact part_lt 3 [y3, y4, y5, y6, y7] (by simp)
  have fv3 : bits .xor .u64 (v4 : Int) ((z3 : Int) * 16777216) = (v3 : Int) := xr (m := 3) (r := leN [y4, y5, y6, y7]) (by omega) b3 (s := v4) hv4 (s' := v3) (by rw [← hz3]; exact hv3) lv4 16777216 (by decide)
  obtain ⟨v2, hv2⟩ : ∃ z, 2 ^ (8 * 2) * leN [y2, y3, y4, y5, y6, y7] = z := ⟨_, rfl⟩
  have lv2 : v2 < 18446744073709551616 := by rw [← hv2]; exact part_lt 2 [y2, y3, y4, y5, y6, y7] (by simp)
  have fv2 : bits .xor .u64 (v3 : Int) ((z2 : Int) * 65536) = (v2 : Int) := xr (m := 2) (r := leN [y3, y4, y5, y6, y7]) (by omega) b2 (s := v3) hv3 (s' := v2) (by rw [← hz2]; exact hv2) lv3 65536 (by decide)
  obtain ⟨v1, hv1⟩ : ∃ z, 2 ^ (8 * 1) * leN [y1, y2, y3, y4, y5, y6, y7] = z := ⟨_, rfl⟩
  have lv1 : v1 < 18446744073709551616 := by rw [← hv1]; exact part_lt 1 [y1, y2, y3, y4, y5, y6, y7] (by simp)
  have fv1 : bits .xor .u64 (v2 : Int) ((z1 : Int) * 256) = (v1 : Int) := xr (m := 1) (r := leN [y2, y3, y4, y5, y6, y7]) (by omega) b1 (s := v2) hv2 (s' := v1) (by rw [← hz1]; exact hv1) lv2 256 (by decide)
  obtain ⟨v0, hv0⟩ : ∃ z, 2 ^ (8 * 0) * leN [y0, y1, y2, y3, y4, y5, y6, y7] = z := ⟨_, rfl⟩
  have lv0 : v0 < 18446744073709551616 := by rw [← hv0]; exact part_lt 0 [y0, y1, y2, y3, y4, y5, y6, y7] (by simp)
  have fv0 : bits .xor .u64 (v1 : Int) (z0 : Int) = (v0 : Int) := by have h := xr (m := 0) (r := leN [y1, y2, y3, y4, y5, y6, y7]) (by omega) b0 (s := v1) hv1 (s' := v0) (by rw [← hz0]; exact hv0) lv1 1 (by decide); rw [show ((1 : Nat) : Int) = 1 from rfl, Int.mul_one] at h; exact h
  have hx : leN [y0, y1, y2, y3, y4, y5, y6, y7] = v0 := by rw [← hv0]; simp
  obtain ⟨a1, qa1⟩ : ∃ z, mulN v0 9782798678568883157 = z := ⟨_, rfl⟩
  have la1 : a1 < 18446744073709551616 := by rw [← qa1]; exact mulN_lt _ _
  have ea1 := mulC qa1
  have Qa1 := Lib.hid qa1
  obtain ⟨a2, qa2⟩ : ∃ z, rotN a1 31 = z := ⟨_, rfl⟩
  have la2 : a2 < 18446744073709551616 := by rw [← qa2]; exact rotN_lt _ la1
  have ea2 := rot31 la1 qa2
  have Qa2 := Lib.hid qa2
  obtain ⟨a3, qa3⟩ : ∃ z, mulN a2 5545529020109919103 = z := ⟨_, rfl⟩
  have la3 : a3 < 18446744073709551616 := by rw [← qa3]; exact mulN_lt _ _
  have ea3 := mulD qa3
  have Qa3 := Lib.hid qa3
  obtain ⟨hh, qhh⟩ : ∃ z, h ^^^ a3 = z := ⟨_, rfl⟩
  have lhh : hh < 18446744073709551616 := by rw [← qhh]; exact xor_lt lh la3
  have ehh := xorI lh la3 qhh
  have Qhh := Lib.hid qhh
  obtain ⟨b1', qb1'⟩ : ∃ z, mulN u0 5545529020109919103 = z := ⟨_, rfl⟩
  have lb1' : b1' < 18446744073709551616 := by rw [← qb1']; exact mulN_lt _ _
  have eb1' := mulD qb1'
  have Qb1' := Lib.hid qb1'
  obtain ⟨b2', qb2'⟩ : ∃ z, rotN b1' 33 = z := ⟨_, rfl⟩
  have lb2' : b2' < 18446744073709551616 := by rw [← qb2']; exact rotN_lt _ lb1'
  have eb2' := rot33 lb1' qb2'
  have Qb2' := Lib.hid qb2'
  obtain ⟨b3', qb3'⟩ : ∃ z, mulN b2' 9782798678568883157 = z := ⟨_, rfl⟩
  have lb3' : b3' < 18446744073709551616 := by rw [← qb3']; exact mulN_lt _ _
  have eb3' := mulC qb3'
  have Qb3' := Lib.hid qb3'
  obtain ⟨kk, qkk⟩ : ∃ z, k ^^^ b3' = z := ⟨_, rfl⟩
  have lkk : kk < 18446744073709551616 := by rw [← qkk]; exact xor_lt lk lb3'
  have ekk := xorI lk lb3' qkk
  have Qkk := Lib.hid qkk
  obtain ⟨c1', qc1'⟩ : ∃ z, hh ^^^ n = z := ⟨_, rfl⟩
  have lc1' : c1' < 18446744073709551616 := by rw [← qc1']; exact xor_lt lhh ln
  have ec1' := xorI lhh ln qc1'
  have Qc1' := Lib.hid qc1'
  obtain ⟨c2', qc2'⟩ : ∃ z, kk ^^^ n = z := ⟨_, rfl⟩
  have lc2' : c2' < 18446744073709551616 := by rw [← qc2']; exact xor_lt lkk ln
  have ec2' := xorI lkk ln qc2'
  have Qc2' := Lib.hid qc2'
  obtain ⟨c3', qc3'⟩ : ∃ z, addN c1' c2' = z := ⟨_, rfl⟩
  have lc3' : c3' < 18446744073709551616 := by rw [← qc3']; exact addN_lt _ _
  have ec3' := addI qc3'
  have Qc3' := Lib.hid qc3'
  obtain ⟨c4', qc4'⟩ : ∃ z, addN c2' c3' = z := ⟨_, rfl⟩
  have lc4' : c4' < 18446744073709551616 := by rw [← qc4']; exact addN_lt _ _
  have ec4' := addI qc4'
  have Qc4' := Lib.hid qc4'
  obtain ⟨d1', qd1'⟩ : ∃ z, mixN c3' = z := ⟨_, rfl⟩
  have Qd1' := Lib.hid qd1'
  obtain ⟨d2', qd2'⟩ : ∃ z, mixN c4' = z := ⟨_, rfl⟩
  have Qd2' := Lib.hid qd2'
  obtain ⟨c5', qc5'⟩ : ∃ z, addN d1' d2' = z := ⟨_, rfl⟩
  have ec5' := addI qc5'
  obtain ⟨c6', qc6'⟩ : ∃ z, addN d2' c5' = z := ⟨_, rfl⟩
  have ec6' := addI qc6'
  have HEND : Hid (lastN (tailH h [y0, y1, y2, y3, y4, y5, y6, y7, y8, y9, y10, y11, y12, y13, y14]) (tailK k [y0, y1, y2, y3, y4, y5, y6, y7, y8, y9, y10, y11, y12, y13, y14]) n = c5') := by
    show _ = _
    rw [show tailK k [y0, y1, y2, y3, y4, y5, y6, y7, y8, y9, y10, y11, y12, y13, y14] = k ^^^ mulN (rotN (mulN (leN [y8, y9, y10, y11, y12, y13, y14]) 5545529020109919103) 33) 9782798678568883157 from rfl, hy, qb1', qb2', qb3', qkk]
    rw [show tailH h [y0, y1, y2, y3, y4, y5, y6, y7, y8, y9, y10, y11, y12, y13, y14] = h ^^^ mulN (rotN (mulN (leN [y0, y1, y2, y3, y4, y5, y6, y7]) 9782798678568883157) 31) 5545529020109919103 from rfl, hx, qa1, qa2, qa3, qhh]
    rw [lastN, qc1', qc2', qc3', qc4', qd1', qd2', qc5']
  have Ma1 := Lib.hid la1
  have Ma2 := Lib.hid la2
  have Ma3 := Lib.hid la3
  have Mhh := Lib.hid lhh
  have Mb1' := Lib.hid lb1'
  have Mb2' := Lib.hid lb2'
  have Mb3' := Lib.hid lb3'
  have Mkk := Lib.hid lkk
  have Mc1' := Lib.hid lc1'
  have Mc2' := Lib.hid lc2'
  have Mc3' := Lib.hid lc3'
  have Mc4' := Lib.hid lc4'
  clear qa1 qa2 qa3 qhh qb1' qb2' qb3' qkk qc1' qc2' qc3' qc4' la1 la2 la3 lhh lb1' lb2' lb3' lkk lc1' lc2' lc3' lc4' qd1' qd2' qc5' qc6' lh lk ln hy hu0 hu1 hu2 hu3 hu4 hu5 hu6 lu0 lu1 lu2 lu3 lu4 lu5 lu6 hx hv0 hv1 hv2 hv3 hv4 hv5 hv6 hv7 lv0 lv1 lv2 lv3 lv4 lv5 lv6 lv7 hz0 hz1 hz2 hz3 hz4 hz5 hz6 hz7 hz8 hz9 hz10 hz11 hz12 hz13 hz14
  go_enter Try.func36, Try.ntmps36
  go_wp2_with fail
  go_quiet (fail)
  go_upto_block 1 with fail
  apply wp_block
  apply exit_cut 1
  case h1 =>
    go_wp2
    exact ⟨rfl, rfl⟩
  (repeat first | refine inBlock_ne (by decide) ?_ | refine then_exit ?_)
  refine inBlock_eq ?_
  go_wp2_with (first | (go_at_call_of 37 (Value.int .u64 (c3' : Int)); refine (fmix_any c3' _ Mc3'.out).mono ?_; rw [Qd1'.out]; rintro e w' ⟨rfl, rfl⟩) | (go_at_call_of 37 (Value.int .u64 (c4' : Int)); refine (fmix_any c4' _ Mc4'.out).mono ?_; rw [Qd2'.out]; rintro e w' ⟨rfl, rfl⟩) | fail)
  go_ret2
  exact ⟨⟨_, by rw [HEND.out]; rfl⟩, _, rfl⟩
end Go.Proofs.Ytodffcoeimcdaaa
