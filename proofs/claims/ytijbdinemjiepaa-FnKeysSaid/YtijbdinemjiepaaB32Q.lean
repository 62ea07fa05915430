/- impl.KeyBytes, laws.keysLive, the law FnKeys. -/
import Derived.Test.YtijbdinemjiepaaB32M
import Derived.Test.YtijbdinemjiepaaSized
namespace Go.Proofs.Ytijbdinemjiepaa
open Go.RowKit Go.Lib

set_option maxRecDepth 100000 in
set_option maxHeartbeats 4000000 in
theorem keyBytes_any (l : List UInt8) (w : World) (hl : l.length ≤ 300) :
    Calls Try.prog 8 #[.string (keyTxt l)] w fun e w' => ∃ v, e = .returned (.tuple #[v, .bool true]) ∧ Told w l v w' := by
  obtain ⟨k, x, y, hs, hk, hx, hx47, hy, hy47⟩ := key_parts l
  have hk2 : k ≤ 1000 := by have := enc5_length l; omega
  have HRK := Lib.hid (fun W => rawKey_any (keyTxt l) k x y W hs hx hx47 hy hy47 hk2)
  have HFK := Lib.hid (fun W => fromKey_any l W hl)
  clear hk
  obtain ⟨s, hks⟩ : ∃ s, keyTxt l = s := ⟨_, rfl⟩
  have HX : Hid (∀ h : 0 < s.size, s[0]'h = x) := by subst hks; exact fun h => hx
  have HY : Hid (∀ h : k < s.size, s[k]'h = y) := by subst hks; exact fun h => hy
  rw [hks] at hs HRK HFK ⊢
  clear hx hy hks
  have hx := HX.out (by omega)
  have hy := HY.out (by omega)
  clear HX HY
  by_cases h0 : 0 < k
  · have h1 := hy47 h0
    have h2 : ((y.toNat : Int) == 47) = false := by rw [beq_eq_false_iff_ne]; omega
    have h3 : (1 : Int) < (k : Int) + 1 := by omega
    clear hy47
    go_enter Try.func8, Try.ntmps8
    go_wp2_with (first | (go_at_call 18; refine (HRK.out _).mono ?_; rintro e w1 ⟨rfl, hb1⟩; have HB1 := Lib.hid hb1; clear hb1) | (go_at_call 17; refine (HFK.out _).mono ?_; rintro e w2 ⟨v2, rfl, A2, c2, rfl, hc2, hr2, hb2⟩; have HR2 := Lib.hid hr2; have HB2 := Lib.hid (below_then HB1.out HB1.out.size hb2); clear hr2 hb2 hc2) | fail)
    have HCL := Lib.hid (clone_u8 A2 l.length c2 w2.heap.size (u8s l) w2.drew (show Reads w2.drew _ _ _ _ _ from HR2.out) (u8s_one l) (by omega) (Nat.le_refl _))
    go_region_with (first | (go_at_call 7; refine HCL.out.mono ?_; clear HCL; rintro e w3 ⟨⟨v3, rfl, hown, -⟩, hb3⟩; have HO3 := Lib.hid hown; have HB3 := Lib.hid (below_then HB2.out.drew HB2.out.size hb3); clear hown hb3) | fail)
    all_goals
      obtain ⟨A3, c3, rfl, hc3, hr3⟩ := own_shape HO3.out
      have HR3 := Lib.hid hr3
      have HC3 := Lib.hid hc3
      clear hr3 hc3 HO3
      go_wp2
      go_ret2
      exact ⟨_, rfl, _, _, rfl, HC3.out, HR3.out, HB3.out⟩
  · have h1 : k = 0 := by omega
    subst h1
    clear hy47
    go_enter Try.func8, Try.ntmps8
    go_wp2_with (first | (go_at_call 18; refine (HRK.out _).mono ?_; rintro e w1 ⟨rfl, hb1⟩; have HB1 := Lib.hid hb1; clear hb1) | (go_at_call 17; refine (HFK.out _).mono ?_; rintro e w2 ⟨v2, rfl, A2, c2, rfl, hc2, hr2, hb2⟩; have HR2 := Lib.hid hr2; have HB2 := Lib.hid (below_then HB1.out HB1.out.size hb2); clear hr2 hb2 hc2) | fail)
    have HCL := Lib.hid (clone_u8 A2 l.length c2 w2.heap.size (u8s l) w2.drew (show Reads w2.drew _ _ _ _ _ from HR2.out) (u8s_one l) (by omega) (Nat.le_refl _))
    go_region_with (first | (go_at_call 7; refine HCL.out.mono ?_; clear HCL; rintro e w3 ⟨⟨v3, rfl, hown, -⟩, hb3⟩; have HO3 := Lib.hid hown; have HB3 := Lib.hid (below_then HB2.out.drew HB2.out.size hb3); clear hown hb3) | fail)
    all_goals
      obtain ⟨A3, c3, rfl, hc3, hr3⟩ := own_shape HO3.out
      have HR3 := Lib.hid hr3
      have HC3 := Lib.hid hc3
      clear hr3 hc3 HO3
      go_wp2
      go_ret2
      exact ⟨_, rfl, _, _, rfl, HC3.out, HR3.out, HB3.out⟩
theorem keysLive_any (w : World) : Calls Try.prog 5 #[] w fun e w' => e = .returned (.bool true) ∧ Below w.heap.size w w' := by
  have hk : keyTxt [255] = ⟨#[47, 55, 52]⟩ := by decide
  have hr : Reads (w.alloc (.cells #[.int .u8 255] 5)) (w.heap.size + 1) 1 (some ⟨w.heap.size, 0, none⟩) 1 (u8s [255]) := reads_lit w 5 (u8s [255])
  have HK := Lib.hid (keyOf_any (some ⟨w.heap.size, 0, none⟩) 1 1 _ [255] _ hr (by simp) (by omega))
  have HB0 := Lib.hid (below_one w (.cells #[.int .u8 255] 5))
  rw [hk] at HK
  clear hr hk
  go_enter Try.func5, Try.ntmps5
  go_wp2_with (first | (go_at_call 6; refine HK.out.mono ?_; rintro e w1 ⟨rfl, hb1⟩; have HB1 := Lib.hid (below_then HB0.out HB0.out.size hb1); clear hb1) | fail)
  go_ret
  exact ⟨rfl, HB1.out⟩
set_option maxRecDepth 100000 in
set_option maxHeartbeats 4000000 in
theorem keys_any (A : Option Addr) (n c : Nat) (l : List UInt8) (w : World) (hr : Reads w w.heap.size 1 A n (u8s l)) (hs : n ≤ 140737488351232) :
    Calls Try.prog 3 #[.slice A n c] w fun e w' => e = .returned (.bool true) ∧ Below w.heap.size w w' := by
  have hln : l.length = n := by have := hr.1; rw [u8s_length] at this; omega
  have HL := Lib.hid keysLive_any
  by_cases h1 : (n : Int) ≤ 300
  · have HR := Lib.hid hr
    have HC := Lib.hid (clone_u8 A n c w.heap.size (u8s l) w hr (u8s_one l) (by omega) (Nat.le_refl _))
    have HKB := Lib.hid (fun W => keyBytes_any l W (by omega))
    have h2 : (n : Int) ≤ 2147483647 := by omega
    have HLN := Lib.hid hln
    have hn3 : n ≤ 300 := by omega
    obtain ⟨s, hks⟩ : ∃ s, keyTxt l = s := ⟨_, rfl⟩
    rw [hks] at HKB
    have HKS := Lib.hid hks
    clear hr hln hks
    go_enter Try.func3, Try.ntmps3
    go_wp2_with (first | (go_at_call 7; refine HC.out.mono ?_; clear HC; rintro e w1 ⟨⟨v1, rfl, hown, -⟩, hb1⟩; obtain ⟨A1, c1, rfl, hc1, hr1⟩ := own_shape hown; have HR1 := Lib.hid hr1; have HB1 := Lib.hid hb1; clear hown hr1 hb1 hc1) | (go_at_call 6; refine (keyOf_any A1 n c1 _ l w1 HR1.out (Nat.le_refl _) hn3).mono ?_; rw [HKS.out]; rintro e w2 ⟨rfl, hb2⟩; have HB2 := Lib.hid (below_then HB1.out HB1.out.size hb2); clear hb2) | (go_at_call 8; refine (HKB.out _).mono ?_; rintro e w3 ⟨v3, rfl, A3, c3, rfl, hc3, hr3, hb3⟩; have HR3 := Lib.hid hr3; have HB3 := Lib.hid (below_then HB2.out HB2.out.size hb3); clear hr3 hb3 hc3) | (go_at_call 9; refine (specKey_any A n c _ l w3 (HR.out.below HB3.out) hn3).mono ?_; rw [HKS.out]; rintro e w4 ⟨rfl, hb4⟩; have HB4 := Lib.hid (below_then HB3.out HB3.out.size hb4); have HR4 := Lib.hid (HR3.out.below hb4); clear hb4) | (go_at_call 10; refine (equal_u8 A3 A _ _ _ _ _ _ l l w4 HR4.out (HR.out.below HB4.out)).mono ?_; rw [sameB_self]; rintro e w5 ⟨rfl, rfl⟩) | (go_at_call 5; refine (HL.out _).mono ?_; rintro e w6 ⟨rfl, hb6⟩; have HB6 := Lib.hid (below_then HB4.out HB4.out.size hb6); clear hb6) | fail)
    go_ret
    exact ⟨rfl, HB6.out⟩
  · have h3 : ¬ (n : Int) ≤ 300 := h1
    by_cases h2 : (n : Int) ≤ 2147483647
    · clear hr hln
      go_enter Try.func3, Try.ntmps3
      go_wp2_with (first | (go_at_call 5; refine (HL.out _).mono ?_; rintro e w1 ⟨rfl, hb1⟩; have HB1 := Lib.hid hb1; clear hb1) | fail)
      go_ret
      exact ⟨rfl, HB1.out⟩
    · clear hr hln
      go_enter Try.func3, Try.ntmps3
      go_wp2
      go_ret
      exact ⟨rfl, Below.refl _ _⟩
theorem keys_row (A : Option Addr) (n c : Nat) (zs : List Int) (w : World) (h1 : IsRow .u8 w A n c zs) (s1 : n * 1 ≤ 140737488351232) :
    Calls Try.prog 3 #[.slice A n c] w fun e w' => e = .returned (.bool true) ∧ Below w.heap.size w w' := by
  obtain ⟨_, r1, f1, _⟩ := isRow_reads h1
  obtain ⟨bs, e1, _⟩ := bytes_of f1
  rw [e1] at r1
  exact keys_any A n c bs w r1 (by omega)
end Go.Proofs.Ytijbdinemjiepaa
