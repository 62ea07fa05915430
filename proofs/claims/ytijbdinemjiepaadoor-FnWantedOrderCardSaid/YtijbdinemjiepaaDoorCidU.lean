/- The library's reading of a number in groups of 7 bits, of three bytes at most. -/
import Derived.Test.YtijbdinemjiepaaDoorCidV
namespace Go.Proofs.YtijbdinemjiepaaDoor
open Go.RowKit

theorem or_join (i acc m : Nat) (h : acc < 2 ^ i) (hs : acc + m * 2 ^ i < 18446744073709551616) : bits .or .u64 (acc : Int) ((m : Int) * ((2 ^ i : Nat) : Int)) = ((acc + m * 2 ^ i : Nat) : Int) := by
  have e : ((m : Int) * ((2 ^ i : Nat) : Int)) = ((m * 2 ^ i : Nat) : Int) := by rw [Int.natCast_mul]
  rw [e, u64_or_nat acc (m * 2 ^ i) (by omega) (by omega), Nat.or_comm, nat_join i (m * 2 ^ i) acc (Nat.mul_mod_left m _) h, Nat.add_comm]
/-- Behind j bytes of a number: what is read, and what comes. -/
structure Group (x : Nat) (l rest : List UInt8) (j acc y : Nat) : Prop where
  lt : j ≤ 2
  sum : acc + y * 2 ^ (7 * j) = x
  low : acc < 2 ^ (7 * j)
  pos : 0 < j → 0 < y
  bytes : l.drop j = uv y ++ rest
  len : j + (uv y).length = (uv x).length
theorem Group.start {x : Nat} {l rest : List UInt8} (h : l = uv x ++ rest) : Group x l rest 0 0 x := ⟨by omega, by simp, by simp, fun h => absurd h (by omega), by simpa using h, by simp⟩
theorem Group.at_ {x : Nat} {l rest : List UInt8} {j acc y : Nat} (h : Group x l rest j acc y) : j < l.length ∧ l[j]? = some (UInt8.ofNat (if y < 128 then y else y % 128 + 128)) := by
  have h1 := h.bytes
  have h2 : (l.drop j)[0]? = some (UInt8.ofNat (if y < 128 then y else y % 128 + 128)) := by
    rw [h1]
    by_cases hy : y < 128
    · rw [uv_small hy, if_pos hy]; rfl
    · rw [uv_great hy, if_neg hy]; rfl
  rw [List.getElem?_drop] at h2
  exact ⟨by have := (List.getElem?_eq_some_iff.mp h2).1; omega, h2⟩
theorem Group.next {x : Nat} {l rest : List UInt8} {j acc y : Nat} (h : Group x l rest j acc y) (hy : ¬ y < 128) (hx : x < 2097152) : Group x l rest (j + 1) (acc + y % 128 * 2 ^ (7 * j)) (y / 128) := by
  have h1 := h.bytes
  have h2 := h.sum
  have h3 := h.low
  have h4 := h.len
  rw [uv_great hy] at h1 h4
  have hp : 2 ^ (7 * (j + 1)) = 2 ^ (7 * j) * 128 := by rw [show 7 * (j + 1) = 7 * j + 7 by omega, Nat.pow_add]
  have hq : y = y % 128 + y / 128 * 128 := by omega
  refine ⟨?_, ?_, ?_, fun _ => by omega, ?_, by rw [List.length_cons] at h4; omega⟩
  · have hj := h.lt
    have h5 : j ≠ 2 := fun e => by
      subst e
      simp at h2
      omega
    omega
  · rw [hp, ← h2]
    generalize 2 ^ (7 * j) = P
    conv => rhs; rw [hq]
    rw [Nat.add_mul, Nat.mul_assoc, Nat.mul_comm 128 P, Nat.add_assoc]
  · rw [hp]
    generalize 2 ^ (7 * j) = P at h3
    have : y % 128 * P ≤ 127 * P := Nat.mul_le_mul_right P (by omega)
    omega
  · have := congrArg (List.drop 1) h1
    rw [List.drop_drop] at this
    rw [this]
    rfl
set_option maxRecDepth 100000 in
set_option maxHeartbeats 1000000 in
theorem fromUvarint_any (x : Nat) (A : Option Addr) (n c B : Nat) (l rest : List UInt8) (w : World) (hx : x < 2097152) (hl : l = uv x ++ rest) (hr : Reads w B 1 A n (u8s l)) (hn : n ≤ 1000000) :
    Calls Tryd.prog 67 #[.slice A n c] w fun e w' => e = .returned (.tuple #[.int .u64 x, .int .i64 ((uv x).length : Nat), .nilIface]) ∧ w' = w := by
  have hln : l.length = n := by have := hr.1; rw [u8s_length] at this; omega
  have HG := Lib.hid (Group.start hl)
  have HR := Lib.hid hr
  have HLN := Lib.hid hln
  clear hr hl hln
  go_enter Tryd.func67, Tryd.ntmps67
  go_wp2
  go_loopw [5, 6, 7, 8, 11] (fun vx vs _ _ i wr => wr = w ∧ ∃ j acc y : Nat, vx = .int .u64 acc ∧ vs = .int .u64 ((7 * j : Nat) : Int) ∧ i = .int .i64 j ∧ Hid (Group x l rest j acc y)) (fun _ _ _ _ i _ => 3 - (intOf i).toNat)
  case atStart => exact ⟨rfl, 0, 0, x, rfl, rfl, rfl, HG.out⟩
  case round =>
    obtain ⟨rfl, j, acc, y, rfl, rfl, rfl, hg⟩ := hrel
    have hj2 := hg.out.lt
    have hsum := hg.out.sum
    have hlow := hg.out.low
    have hpos := hg.out.pos
    obtain ⟨hjl, hat⟩ := hg.out.at_
    have hjn : j < n := by have := HLN.out; omega
    obtain ⟨b, o, rfl, hbB, hc⟩ := HR.out.lit hjn
    have hcj := hc j _ (by rw [u8s_at _ _ hjl])
    rw [List.getElem?_eq_getElem hjl] at hat
    injection hat with hat
    rw [hat] at hcj
    clear hat hc hjl
    by_cases hy : y < 128
    · rw [if_pos hy, UInt8.toNat_ofNat_of_lt' (by show _ < 256; omega)] at hcj
      have hlen : j + 1 = (uv x).length := by have := hg.out.len; rw [uv_small hy] at this; exact this
      have HLEN := Lib.hid hlen
      clear hlen
      rcases (by omega : j = 0 ∨ j = 1 ∨ j = 2) with rfl | rfl | rfl
      · have ha : acc = 0 := by simp at hlow; exact hlow
        have hs : y = x := by simp at hsum; omega
        subst ha
        subst hs
        have e0 := or_join 0 0 y (by decide) (by omega)
        simp only [Nat.pow_zero, Nat.mul_one, Nat.add_zero, Nat.zero_add] at hcj e0 HLEN
        rcases Nat.eq_zero_or_pos y with rfl | hy0
        all_goals
          go_wp2
          go_ret3
          refine ⟨?_, rfl⟩
          rw [← HLEN.out]
          exact congrArg (fun z => Ending.returned (.tuple #[.int .u64 z, .int .i64 1, .nilIface])) (by simpa using e0)
      · have e0 := or_join 7 acc y (by simpa using hlow) (by omega)
        have hy0 : 0 < y := hpos (by omega)
        simp only [Nat.mul_one, Nat.reducePow] at hsum e0
        rw [hsum] at e0
        go_wp2
        go_ret3
        refine ⟨?_, rfl⟩
        rw [← HLEN.out]
        exact congrArg (fun z => Ending.returned (.tuple #[.int .u64 z, .int .i64 2, .nilIface])) e0
      · have e0 := or_join 14 acc y (by simpa using hlow) (by omega)
        have hy0 : 0 < y := hpos (by omega)
        simp only [Nat.reduceMul, Nat.reducePow] at hsum e0
        rw [hsum] at e0
        go_wp2
        go_ret3
        refine ⟨?_, rfl⟩
        rw [← HLEN.out]
        exact congrArg (fun z => Ending.returned (.tuple #[.int .u64 z, .int .i64 3, .nilIface])) e0
    · rw [if_neg hy, UInt8.toNat_ofNat_of_lt' (by show _ < 256; omega)] at hcj
      have hnx := hg.out.next hy hx
      have ea : bits .and .u8 ((y % 128 + 128 : Nat) : Int) 127 = ((y % 128 : Nat) : Int) := by
        have h := u8_and_nat (y % 128 + 128) 127 (by omega) (by omega)
        rw [Nat.and_two_pow_sub_one_eq_mod (y % 128 + 128) 7] at h
        rw [show (y % 128 + 128) % 2 ^ 7 = y % 128 by omega] at h
        exact h
      have hm : y % 128 < 128 := by omega
      have hq1 : 128 ≤ y % 128 + 128 := by omega
      have hq2 : y % 128 + 128 < 256 := by omega
      have hj3 := hnx.lt
      have e0 := or_join (7 * j) acc (y % 128) hlow (by
        have : y % 128 * 2 ^ (7 * j) ≤ y * 2 ^ (7 * j) := Nat.mul_le_mul_right _ (by omega)
        omega)
      generalize y % 128 = m at hcj ea hm hq1 hq2 e0 hnx
      generalize m + 128 = q at hcj ea hq1 hq2
      have HNX := Lib.hid hnx
      clear hnx
      rcases (by omega : j = 0 ∨ j = 1) with rfl | rfl
      · have ha : acc = 0 := by simp at hlow; exact hlow
        subst ha
        simp only [Nat.mul_zero, Nat.pow_zero, Nat.mul_one, Nat.add_zero, Nat.zero_add] at hcj e0 HNX
        go_wp2
        go_roundw
        case rel => exact ⟨trivial, 1, m, y / 128, congrArg (Value.int .u64) (by simpa using e0), rfl, rfl, HNX.out⟩
        case measure => simp [intOf]
      · simp only [Nat.mul_one, Nat.reducePow, Nat.reduceAdd] at e0 HNX
        go_wp2
        go_roundw
        case rel => exact ⟨trivial, 2, acc + m * 128, y / 128, congrArg (Value.int .u64) e0, rfl, rfl, HNX.out⟩
        case measure => simp [intOf]
end Go.Proofs.YtijbdinemjiepaaDoor
