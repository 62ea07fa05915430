/- The reference's reading of a number in groups of 7 bits (of at most nine bytes). -/
import Derived.Test.YthgbhaackihbjaaDoorRows
import Derived.Test.YthgbhaackihbjaaDoorMem
import Derived.Test.YthgbhaackihbjaaDoorViP
import Derived.Laws.BitsAllLaws
import Derived.Deep.LoopGhost
import Derived.Outline
namespace Go.Proofs.YthgbhaackihbjaaDoor
open Go.RowKit

theorem or_join (i acc m : Nat) (h : acc < 2 ^ i) (hs : acc + m * 2 ^ i < 18446744073709551616) : bits .or .u64 (acc : Int) (IntKind.u64.wrap ((m : Int) * 2 ^ i)) = ((acc + m * 2 ^ i : Nat) : Int) := by
  have e : ((m : Int) * 2 ^ i) = ((m * 2 ^ i : Nat) : Int) := by rw [Int.natCast_mul, Int.natCast_pow]; rfl
  rw [e, IntWalk.u64_in _ ⟨by omega, by omega⟩, u64_or_nat acc (m * 2 ^ i) (by omega) (by omega), Nat.or_comm, nat_join i (m * 2 ^ i) acc (Nat.mul_mod_left m _) h, Nat.add_comm]
theorem low7b (c : Nat) (hc : c < 256) : bits .and .u8 (c : Int) 127 = ((c % 128 : Nat) : Int) := by
  have h := u8_and_nat c 127 hc (by omega)
  rw [Nat.and_two_pow_sub_one_eq_mod c 7] at h
  exact h
/-- What the reading hands back. -/
def viRes (l : List UInt8) : Value := match vi l with
  | none => .tuple #[.int .u64 0, .int .i64 0]
  | some p => .tuple #[.int .u64 (p.1 : Nat), .int .i64 (p.2 : Nat)]
theorem viRes_none {l : List UInt8} (h : vi l = none) : viRes l = .tuple #[.int .u64 0, .int .i64 0] := by simp [viRes, h]
theorem viRes_some {l : List UInt8} {n k : Nat} (h : vi l = some (n, k)) : viRes l = .tuple #[.int .u64 n, .int .i64 k] := by simp [viRes, h]
set_option maxRecDepth 100000 in
set_option maxHeartbeats 1000000 in
theorem readUvarint_any (A : Option Addr) (n c B : Nat) (l : List UInt8) (w : World) (hr : Reads w B 1 A n (u8s l)) (hrun : runOk 0 l = true) :
    Calls Tryd.prog 14 #[.slice A n c] w fun e w' => e = .returned (viRes l) ∧ w' = w := by
  have hln : l.length = n := by have := hr.1; rw [u8s_length] at this; omega
  have HP := Lib.hid (Part.start hrun)
  have HR := Lib.hid hr
  have HLN := Lib.hid hln
  clear hr hln hrun
  go_enter Tryd.func14, Tryd.ntmps14
  go_wp2
  go_loopg [4, 5] 9 (fun k va vj wr => wr = w ∧ ∃ j acc : Nat, va = .int .u64 acc ∧ vj = .int .i64 j ∧ Hid (k + j = 9) ∧ Hid (Part l j acc))
  case atStart => exact ⟨rfl, 0, 0, rfl, rfl, rfl, HP.out⟩
  case round =>
    obtain ⟨rfl, j, acc, rfl, rfl, HK, hg⟩ := hrel
    have hj2 := hg.out.lt
    have hjl := hg.out.len
    by_cases hend : n ≤ j
    · have hv := Lib.hid (viRes_none (hg.out.torn (by have := HLN.out; omega)))
      have hlt : ¬ (j : Int) < n := by omega
      go_wp2
      go_ret2
      exact ⟨by rw [hv.out]; rfl, rfl⟩
    · have hjn : j < n := by omega
      obtain ⟨b, o, rfl, hbB, hc⟩ := HR.out.lit hjn
      have hjll : j < l.length := by have := HLN.out; omega
      have hcj := hc j _ (by rw [u8s_at _ _ hjll])
      have hat : l[j]? = some l[j] := List.getElem?_eq_getElem hjll
      have hb256 := UInt8.toNat_lt l[j]
      by_cases hs : (l[j]).toNat < 128
      · obtain ⟨h1, h2⟩ := hg.out.last hat hs
        have HV := Lib.hid (viRes_some h1)
        have hlow := hg.out.low
        have e1 := low7b (l[j]).toNat (by omega)
        have e2 := or_join (7 * j) acc (l[j]).toNat hlow (by omega)
        rw [Nat.mod_eq_of_lt hs] at e1
        clear hat hlow h1 hc h2
        generalize (l[j]).toNat = m at *
        generalize acc + m * 2 ^ (7 * j) = v at *
        go_wp2
        go_ret2
        exact ⟨by rw [HV.out]; rfl, rfl⟩
      · have hnx := hg.out.next hat hs
        have hlow := hg.out.low
        have e1 := low7b (l[j]).toNat (by omega)
        have hnl := hnx.low
        have hnj := hnx.lt
        have h64 : acc + (l[j]).toNat % 128 * 2 ^ (7 * j) < 18446744073709551616 := Nat.lt_of_lt_of_le hnl (Nat.le_trans (Nat.pow_le_pow_right (by omega) (show 7 * (j + 1) ≤ 63 by omega)) (by decide))
        have e2 := or_join (7 * j) acc ((l[j]).toNat % 128) hlow h64
        have hq : (l[j]).toNat % 128 < 128 := by omega
        have HNX := Lib.hid hnx
        clear hat hlow hnx hc hnl h64
        generalize (l[j]).toNat % 128 = q at *
        generalize (l[j]).toNat = m at *
        generalize acc + q * 2 ^ (7 * j) = v at *
        go_wp2
        go_roundg (gk - 1)
        case measure => have := HK.out; omega
        case rel => exact ⟨rfl, j + 1, v, rfl, by go_num, by have := HK.out; show _ = _; omega, HNX.out⟩
end Go.Proofs.YthgbhaackihbjaaDoor
