/- The laws FnBitsSize: the walk of the law and of the example that it asks. -/
import Derived.Test.YtoebofppmkglfaaField
namespace Go.Proofs.Ytoebofppmkglfaa
open Go.RowKit

/-- It returns true, and all that was there is as it was. -/
structure Yes (w : World) (r : Ending) (w' : World) : Prop where
  ret : r = .returned (.bool true)
  below : Below w.heap.size w w'

theorem shardSetting_any (w : World) : Calls Try.prog 7 #[] w (Yes w) := by
  have HR : Hid (Reads (w.alloc (.cells #[.int .i64 3] 3)) (w.heap.size + 1) 1 (some ⟨w.heap.size, 0, none⟩) 1 (i64s [3])) := reads_lit w 3 (i64s [3])
  have hz : ∀ z ∈ [(3 : Int)], -(8 * ((1 : Nat) : Int)) ≤ z ∧ z < 8 * ((1 : Nat) : Int) := by simp
  have HZ := Lib.hid hz
  clear hz
  go_enter Try.func7, Try.ntmps7
  go_wp2_with (first | (go_at_call 6; refine (bitsSet_ok 1 _ _ _ _ _ _ HR.out (by simp) (by omega) (by omega) HZ.out).mono ?_; rintro e w1 ⟨⟨v, rfl, hown⟩, hb1⟩; obtain ⟨A1, c1, rfl, _, hr1⟩ := own_shape hown; have HR1 := Lib.hid (hr1.alloc (Nat.le_refl _) (.cells (u8s [8]).toArray 5)); have HR2 : Hid (Reads (w1.alloc (.cells #[.int .u8 8] 5)) (w1.heap.size + 1) 1 (some ⟨w1.heap.size, 0, none⟩) 1 (u8s [8])) := reads_lit w1 5 (u8s [8]); clear hown hr1) | (go_at_call 12; refine (equal_u8 _ _ _ _ _ _ _ _ (bare (fieldOf 1 [3])) [8] _ HR1.out HR2.out).mono ?_; rintro e w2 ⟨rfl, rfl⟩))
  go_ret
  have e : sameB (bare (fieldOf 1 [3])) [8] = true := by decide
  exact ⟨by simp [e], below_alloc (below_then (below_one _ _) (by simp) hb1) _⟩

theorem bitsSize_any (n : Int) (w : World) (h1 : -32768 ≤ n) (h2 : n ≤ 32767) : Calls Try.prog 3 #[.int .i16 n] w (Yes w) := by
  by_cases h0 : n < 0 ∨ n % 8 ≠ 0
  · by_cases hn : n < 0
    · go_enter Try.func3, Try.ntmps3
      go_wp2_with (first | (go_at_call 6; refine (bitsSet_bad _ _ _ _ _ (.inl hn) h1 h2).mono ?_; rintro e w1 ⟨rfl, hb1⟩) | (go_at_call 7; refine (shardSetting_any _).mono ?_; rintro e w2 ⟨rfl, hb2⟩))
      go_ret
      exact ⟨rfl, below_then hb1 hb1.size hb2⟩
    · have hm : n % 8 ≠ 0 := by omega
      have hm2 : ((n % 8 : Int) == 0) = false := by simpa using hm
      have hn0 : 0 ≤ n := by omega
      have H0 := Lib.hid h0
      clear h0 hm
      go_enter Try.func3, Try.ntmps3
      go_wp2_with (first | (go_at_call 6; refine (bitsSet_bad _ _ _ _ _ H0.out h1 h2).mono ?_; rintro e w1 ⟨rfl, hb1⟩) | (go_at_call 7; refine (shardSetting_any _).mono ?_; rintro e w2 ⟨rfl, hb2⟩))
      go_ret
      exact ⟨rfl, below_then hb1 hb1.size hb2⟩
  · obtain ⟨m, rfl⟩ : ∃ m : Nat, n = 8 * m := ⟨(n / 8).toNat, by omega⟩
    have hm : m ≤ 100000 := by omega
    have hn0 : 0 ≤ 8 * (m : Int) := by omega
    have hm2 : ((8 * (m : Int)) % 8 == 0) = true := by simp
    clear h0
    go_enter Try.func3, Try.ntmps3
    go_wp2_with (first | (go_at_call 6; refine (bitsSet_ok _ none 0 0 0 [] _ Reads.none_ (Nat.zero_le _) hm (by omega) (by simp)).mono ?_; rintro e w1 ⟨⟨v, rfl, hown⟩, hb1⟩) | (go_at_call 7; refine (shardSetting_any _).mono ?_; rintro e w2 ⟨rfl, hb2⟩))
    go_ret
    exact ⟨rfl, below_then hb1 hb1.size hb2⟩

theorem bitsSize_row (n : Int) (w : World) (h : (Lit.int .i16 n).wf = true) : Calls Try.prog 3 #[.int .i16 n] w fun e w' => e = .returned (.bool true) ∧ Below w.heap.size w w' := by
  simp [Lit.wf, IntKind.min, IntKind.max, IntKind.signed, IntKind.bits] at h
  exact (bitsSize_any n w (by omega) (by omega)).mono fun _ _ ⟨h1, h2⟩ => ⟨h1, h2⟩
end Go.Proofs.Ytoebofppmkglfaa
