/- murmur3: le64; the reference's shardLittle. -/
import Derived.Test.YtodffcoeimcdaaaMmA
namespace Go.Proofs.Ytodffcoeimcdaaa
open Go.RowKit Go.Lib

theorem le8 {x y z : Nat} (hx : x < 4294967296) (hy : y < 4294967296) (h : x + 4294967296 * y = z) : bits .or .u64 (x : Int) ((y : Int) * 4294967296) = (z : Int) := by
  have o1 := or_add 32 y x (by omega)
  rw [show ((y : Int) * 4294967296) = ((2 ^ 32 * y : Nat) : Int) by omega]
  exact orI64 (by omega) (by omega) (o1.trans (by omega))
theorem leN4_lt (y0 y1 y2 y3 : UInt8) : leN [y0, y1, y2, y3] < 4294967296 := Nat.lt_of_lt_of_le (leN_lt [y0, y1, y2, y3]) (by show 256 ^ 4 ≤ _; decide)
theorem leN_44 (y0 y1 y2 y3 y4 y5 y6 y7 : UInt8) : leN [y0, y1, y2, y3] + 4294967296 * leN [y4, y5, y6, y7] = leN [y0, y1, y2, y3, y4, y5, y6, y7] := by
  simp only [leN]
  omega
set_option maxRecDepth 100000 in
set_option maxHeartbeats 4000000 in
theorem le64_any (b o n c : Nat) (y0 y1 y2 y3 y4 y5 y6 y7 : UInt8) (t : List UInt8) (w : World) (hs : Src w b o (y0 :: y1 :: y2 :: y3 :: y4 :: y5 :: y6 :: y7 :: t)) (hn : 8 ≤ n) (hc : n ≤ c) :
    Calls Try.prog 42 #[.slice (some ⟨b, o, none⟩) n c] w fun e w' => e = .returned (.int .u64 ((leN [y0, y1, y2, y3, y4, y5, y6, y7] : Nat) : Int)) ∧ ∃ k, w' = w.drewN k := by
  have HA := Lib.hid (fun W (h : Src W b o (y0 :: y1 :: y2 :: y3 :: y4 :: y5 :: y6 :: y7 :: t)) => le32_any b o n c y0 y1 y2 y3 _ W h (by omega))
  have HB := Lib.hid (fun W (h : Src W b (o + 4) (y4 :: y5 :: y6 :: y7 :: t)) => le32_any b (o + 4) (n - 4) (c - 4) y4 y5 y6 y7 t W h (by omega))
  have e := le8 (leN4_lt y0 y1 y2 y3) (leN4_lt y4 y5 y6 y7) (leN_44 _ _ _ _ _ _ _ _)
  have HS := Lib.hid hs
  have HS2 : Hid (Src w b (o + 4) (y4 :: y5 :: y6 :: y7 :: t)) := hs.drop 4
  have x1 := leN4_lt y0 y1 y2 y3
  have x2 := leN4_lt y4 y5 y6 y7
  have e5 : IntKind.u64.wrap ((leN [y0, y1, y2, y3] : Nat) : Int) = ((leN [y0, y1, y2, y3] : Nat) : Int) := by rw [IntKind.wrap_u64]; omega
  have e6 : IntKind.u64.wrap ((leN [y4, y5, y6, y7] : Nat) : Int) = ((leN [y4, y5, y6, y7] : Nat) : Int) := by rw [IntKind.wrap_u64]; omega
  have hn4 : (4 : Int) ≤ (n : Int) := by omega
  have hc4 : ¬ c = 4 := by omega
  clear hs
  generalize leN [y0, y1, y2, y3, y4, y5, y6, y7] = z at *
  generalize leN [y0, y1, y2, y3] = x at *
  generalize leN [y4, y5, y6, y7] = y at *
  go_enter Try.func42, Try.ntmps42
  go_wp2_with fail
  go_quiet (first | (go_at_call_of 43 (Value.slice (some ⟨b, o, none⟩) n c); refine Calls.quiet_of (HA.out _ HS.out)) | (go_at_call 43; refine Calls.quiet_of (HB.out _ (HS2.out.drewN _))) | fail)
  go_wp2
  go_ret
  exact ⟨rfl, _, rfl⟩
theorem shl8 {v x j : Nat} (hv : v < 256 ^ j) (hx : x < 256) (hj : j < 8) : bits .or .u64 (v : Int) (IntKind.u64.wrap ((x : Int) * 2 ^ (8 * j))) = ((v + 256 ^ j * x : Nat) : Int) := by
  have e : (256 : Nat) ^ j = 2 ^ (8 * j) := by rw [Nat.pow_mul]
  rw [e] at hv ⊢
  have o1 := or_add (8 * j) x v hv
  have hp : 2 ^ (8 * j) ≤ 2 ^ 56 := Nat.pow_le_pow_right (by omega) (by omega)
  have hm : 2 ^ (8 * j) * x ≤ 2 ^ 56 * 255 := Nat.mul_le_mul hp (by omega)
  have e2 : ((x : Int) * 2 ^ (8 * j)) = ((2 ^ (8 * j) * x : Nat) : Int) := by rw [Int.natCast_mul, Int.natCast_pow, Int.mul_comm]; rfl
  rw [e2, IntKind.wrap_u64]
  generalize 2 ^ (8 * j) = P at *
  rw [show ((P * x : Nat) : Int) % 18446744073709551616 = ((P * x : Nat) : Int) by omega]
  exact orI64 (by omega) (by omega) o1
set_option maxRecDepth 100000 in
set_option maxHeartbeats 4000000 in
theorem little_any (A : Option Addr) (n c B : Nat) (l : List UInt8) (w : World) (hr : Reads w B 1 A n (u8s l)) (hn : n ≤ 8) :
    Calls Try.prog 11 #[.slice A n c] w fun e w' => e = .returned (.int .u64 ((leN l : Nat) : Int)) ∧ w' = w := by
  have hln : l.length = n := by have := hr.1; rw [u8s_length] at this; omega
  have HR := Lib.hid hr
  have HLN := Lib.hid hln
  clear hr hln
  go_enter Try.func11, Try.ntmps11
  go_wp2
  go_loopw [3, 8] (fun sn si wr => wr = w ∧ ∃ (j v : Nat), j ≤ n ∧ si = .int .i64 j ∧ sn = .int .u64 v ∧ v < 256 ^ j ∧ Hid (leN (l.take j) = v)) (fun _ si _ => n - (intOf si).toNat)
  case atStart => exact ⟨rfl, 0, 0, Nat.zero_le _, rfl, rfl, by decide, rfl⟩
  case round =>
    obtain ⟨rfl, j, v, hj, rfl, rfl, hv, HV⟩ := hrel
    by_cases hlt : j < n
    · obtain ⟨b, o, rfl, hbB, hat⟩ := HR.out.lit hlt
      have hjl : j < l.length := by have := HLN.out; omega
      have k1 := hat j _ (u8s_at l j hjl)
      have hx8 : (l[j]).toNat < 256 := UInt8.toNat_lt _
      have HV2 : Hid (leN (l.take (j + 1)) = v + 256 ^ j * (l[j]).toNat) := by
        show _ = _
        rw [List.take_succ_eq_append_getElem hjl, leN_snoc, HV.out, List.length_take, Nat.min_eq_left (by omega)]
      have hv2 : v + 256 ^ j * (l[j]).toNat < 256 ^ (j + 1) := by
        have h := leN_lt (l.take (j + 1))
        rw [HV2.out, List.length_take, Nat.min_eq_left (by omega)] at h
        exact h
      generalize (l[j]).toNat = x at *
      have g1 : (j : Int) < (n : Int) := by omega
      have HV3 := Lib.hid hv2
      clear hat hjl
      have hsh := shl8 hv hx8 (show j < 8 by omega)
      go_wp2
      refine ⟨⟨trivial, j + 1, v + 256 ^ j * x, by omega, by go_num, congrArg (Value.int .u64) (by rw [Int.natCast_add, Int.natCast_mul, Int.natCast_pow]; rfl), hv2, HV2.out⟩, by simp [intOf]; omega⟩
    · have hjn : j = n := by omega
      have HF : Hid (leN l = v) := by show _ = _; rw [← HV.out, List.take_of_length_le (by have := HLN.out; omega)]
      have g1 : ¬ (j : Int) < (n : Int) := by omega
      clear hjn
      go_wp2
      go_ret
      exact ⟨by rw [HF.out]; rfl, rfl⟩
end Go.Proofs.Ytodffcoeimcdaaa
