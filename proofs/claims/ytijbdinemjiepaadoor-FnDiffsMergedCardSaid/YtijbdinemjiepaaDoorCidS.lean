/- The library's reading of a number in groups of 7 bits out of a text, of three bytes at most. -/
import Derived.Lib.Strings
import Derived.Test.YtijbdinemjiepaaDoorCidU
namespace Go.Proofs.YtijbdinemjiepaaDoor
open Go.RowKit

theorem byte_at {s : ByteArray} {l : List UInt8} {j : Nat} {b : UInt8} (hs : s.data.toList = l) (h : l[j]? = some b) (hj : j < s.size) : s[j] = b := by
  subst hs
  have hl : j < s.data.toList.length := by rw [← Lib.size_eq]; exact hj
  rw [List.getElem?_eq_getElem hl] at h
  exact Option.some.inj h
set_option maxRecDepth 100000 in
set_option maxHeartbeats 1000000 in
theorem strUvarint_any (x : Nat) (s : ByteArray) (l rest : List UInt8) (w : World) (hx : x < 2097152) (hs : s.data.toList = l) (hl : l = uv x ++ rest) (hn : s.size ≤ 1000000) :
    Calls Tryd.prog 70 #[.string s] w fun e w' => e = .returned (.tuple #[.int .u64 x, .int .i64 ((uv x).length : Nat), .nilIface]) ∧ w' = w := by
  have hln : l.length = s.size := by rw [← hs, ← Lib.size_eq]
  have HG := Lib.hid (Group.start hl)
  have HS := Lib.hid hs
  have HLN := Lib.hid hln
  clear hl hln hs
  go_enter Tryd.func70, Tryd.ntmps70
  go_wp2
  go_loopw [5, 6, 7, 8] (fun vx vs i _ wr => wr = w ∧ ∃ j acc y : Nat, vx = .int .u64 acc ∧ vs = .int .u64 ((7 * j : Nat) : Int) ∧ i = .int .i64 j ∧ Hid (Group x l rest j acc y)) (fun _ _ i _ _ => 3 - (intOf i).toNat)
  case atStart => exact ⟨rfl, 0, 0, x, rfl, rfl, rfl, HG.out⟩
  case round =>
    obtain ⟨rfl, j, acc, y, rfl, rfl, rfl, hg⟩ := hrel
    have hj2 := hg.out.lt
    have hsum := hg.out.sum
    have hlow := hg.out.low
    have hpos := hg.out.pos
    obtain ⟨hjl, hat⟩ := hg.out.at_
    have hjn : j < s.size := by have := HLN.out; omega
    by_cases hy : y < 128
    · rw [if_pos hy] at hat
      have hcj := byte_at HS.out hat hjn
      have hcj2 : (s[j]'hjn).toNat = y := by rw [hcj, UInt8.toNat_ofNat_of_lt' (by show _ < 256; omega)]
      clear hat hcj hjl
      have hlen : j + 1 = (uv x).length := by have := hg.out.len; rw [uv_small hy] at this; exact this
      have HLEN := Lib.hid hlen
      clear hlen
      rcases (by omega : j = 0 ∨ j = 1 ∨ j = 2) with rfl | rfl | rfl
      · have ha : acc = 0 := by simp at hlow; exact hlow
        have hs : y = x := by simp at hsum; omega
        subst ha
        subst hs
        have e0 := or_join 0 0 y (by decide) (by omega)
        simp only [Nat.pow_zero, Nat.mul_one, Nat.zero_add] at e0 HLEN
        rcases Nat.eq_zero_or_pos y with rfl | hy0
        all_goals
          go_wp2
          go_ret3
          refine ⟨?_, rfl⟩
          rw [← HLEN.out]
          exact congrArg (fun z => Ending.returned (.tuple #[.int .u64 z, .int .i64 1, .nilIface])) (by simpa using e0)
      · have e0 := or_join 7 acc y (by simpa using hlow) (by omega)
        have hy0 : 0 < y := hpos (by omega)
        simp only [Nat.mul_one, Nat.reducePow] at hsum e0
        rw [hsum] at e0
        go_wp2
        go_ret3
        refine ⟨?_, rfl⟩
        rw [← HLEN.out]
        exact congrArg (fun z => Ending.returned (.tuple #[.int .u64 z, .int .i64 2, .nilIface])) e0
      · have e0 := or_join 14 acc y (by simpa using hlow) (by omega)
        have hy0 : 0 < y := hpos (by omega)
        simp only [Nat.reduceMul, Nat.reducePow] at hsum e0
        rw [hsum] at e0
        go_wp2
        go_ret3
        refine ⟨?_, rfl⟩
        rw [← HLEN.out]
        exact congrArg (fun z => Ending.returned (.tuple #[.int .u64 z, .int .i64 3, .nilIface])) e0
    · rw [if_neg hy] at hat
      have hcj := byte_at HS.out hat hjn
      have hcj2 : (s[j]'hjn).toNat = y % 128 + 128 := by rw [hcj, UInt8.toNat_ofNat_of_lt' (by show _ < 256; omega)]
      clear hat hcj hjl
      have hnx := hg.out.next hy hx
      have ea : bits .and .u8 ((y % 128 + 128 : Nat) : Int) 127 = ((y % 128 : Nat) : Int) := by
        have h := u8_and_nat (y % 128 + 128) 127 (by omega) (by omega)
        rw [Nat.and_two_pow_sub_one_eq_mod (y % 128 + 128) 7] at h
        rw [show (y % 128 + 128) % 2 ^ 7 = y % 128 by omega] at h
        exact h
      have hm : y % 128 < 128 := by omega
      have hq1 : 128 ≤ y % 128 + 128 := by omega
      have hq2 : y % 128 + 128 < 256 := by omega
      have hj3 := hnx.lt
      have e0 := or_join (7 * j) acc (y % 128) hlow (by
        have : y % 128 * 2 ^ (7 * j) ≤ y * 2 ^ (7 * j) := Nat.mul_le_mul_right _ (by omega)
        omega)
      generalize y % 128 = m at hcj2 ea hm hq1 hq2 e0 hnx
      generalize m + 128 = q at hcj2 ea hq1 hq2
      have HNX := Lib.hid hnx
      clear hnx
      rcases (by omega : j = 0 ∨ j = 1) with rfl | rfl
      · have ha : acc = 0 := by simp at hlow; exact hlow
        subst ha
        simp only [Nat.mul_zero, Nat.pow_zero, Nat.mul_one, Nat.zero_add] at e0 HNX
        go_wp2
        go_roundw
        case rel => exact ⟨trivial, 1, m, y / 128, congrArg (Value.int .u64) (by simpa using e0), rfl, rfl, HNX.out⟩
        case measure => simp [intOf]
      · simp only [Nat.mul_one, Nat.reducePow, Nat.reduceAdd] at e0 HNX
        go_wp2
        go_roundw
        case rel => exact ⟨trivial, 2, acc + m * 128, y / 128, congrArg (Value.int .u64) e0, rfl, rfl, HNX.out⟩
        case measure => simp [intOf]
end Go.Proofs.YtijbdinemjiepaaDoor
