/- The law FnDiffsMerged. -/
import Derived.Test.YtijbdinemjiepaaDoorDfX
namespace Go.Proofs.YtijbdinemjiepaaDoor
open Go.RowKit

set_option maxRecDepth 100000 in
set_option maxHeartbeats 4000000 in
theorem law_diffs (A1 A2 : Option Addr) (n1 n2 c1 c2 : Nat) (l1 l2 : List Nat) (w : World) (hr1 : Reads w w.heap.size 1 A1 n1 (u16s l1)) (hr2 : Reads w w.heap.size 1 A2 n2 (u16s l2)) (hl1 : ∀ x ∈ l1, x < 65536) (hl2 : ∀ x ∈ l2, x < 65536) (hn1 : n1 ≤ 9223372036854775807) (hn2 : n2 ≤ 9223372036854775807) :
    Calls Tryd.prog 3 #[.slice A1 n1 c1, .slice A2 n2 c2] w fun e w' => e = .returned (.bool true) ∧ Below w.heap.size w w' := by
  have LV := Lib.hid (fun W : World => diffsLive_any W)
  by_cases b1 : n1 ≤ 2147483647
  case neg =>
    have g1 : (2147483647 : Int) < (n1 : Int) := by omega
    go_enter Tryd.func3, Tryd.ntmps3
    go_wp2
    go_ret
    exact ⟨rfl, Below.refl _ _⟩
  have g1 : ¬ (2147483647 : Int) < (n1 : Int) := by omega
  by_cases b2 : n2 ≤ 2147483647
  case neg =>
    have g2 : (2147483647 : Int) < (n2 : Int) := by omega
    go_enter Tryd.func3, Tryd.ntmps3
    go_wp2
    go_ret
    exact ⟨rfl, Below.refl _ _⟩
  have g2 : ¬ (2147483647 : Int) < (n2 : Int) := by omega
  by_cases s1 : n1 ≤ 60
  case neg =>
    have g3 : (60 : Int) < (n1 : Int) := by omega
    go_enter Tryd.func3, Tryd.ntmps3
    go_wp2_with (first | (go_at_call 6; (with_reducible refine (LV.out _).mono ?_); rintro e w1 ⟨rfl, hb⟩; have HB := Lib.hid hb; clear hb) | fail)
    go_ret
    exact ⟨rfl, HB.out⟩
  have g3 : ¬ (60 : Int) < (n1 : Int) := by omega
  by_cases s2 : n2 ≤ 60
  case neg =>
    have g4 : (60 : Int) < (n2 : Int) := by omega
    go_enter Tryd.func3, Tryd.ntmps3
    go_wp2_with (first | (go_at_call 6; (with_reducible refine (LV.out _).mono ?_); rintro e w1 ⟨rfl, hb⟩; have HB := Lib.hid hb; clear hb) | fail)
    go_ret
    exact ⟨rfl, HB.out⟩
  have g4 : ¬ (60 : Int) < (n2 : Int) := by omega
  have C1 := Lib.hid (fun W (hW : Below w.heap.size w W) => changes_rw A1 n1 c1 _ l1 W (hr1.on hW) hl1 s1 (Nat.le_refl _))
  have C2 := Lib.hid (fun W (hW : Below w.heap.size w W) => changes_rw A2 n2 c2 _ l2 W (hr2.on hW) hl2 s2 (Nat.le_refl _))
  have HP : Hid (∀ d ∈ l1.map chg ++ l2.map chg, d.path.size ≤ 1000) := Lib.hid (fun d hd => by
    rw [← List.map_append] at hd
    obtain ⟨n, _, rfl⟩ := List.mem_map.1 hd
    exact path_small n)
  have hz1 : l1.length = n1 := by have := hr1.1; rw [u16s_length] at this; omega
  have hz2 : l2.length = n2 := by have := hr2.1; rw [u16s_length] at this; omega
  have hs := spec_len (l1.map chg) (l2.map chg)
  rw [List.length_map, List.length_map, hz1, hz2] at hs
  obtain ⟨hs1, hs2⟩ := hs
  generalize l1.map chg = ds1 at *
  generalize l2.map chg = ds2 at *
  have HS1 : Hid ((specM Dif.path ds1 ds2).1.length ≤ 100000) := Lib.hid (by omega)
  have HS2 : Hid ((specM Dif.path ds1 ds2).2.length ≤ 100000) := Lib.hid (by omega)
  clear hr1 hr2 hl1 hl2 hz1 hz2 hs1 hs2
  obtain ⟨L, hL⟩ : ∃ L, (specM Dif.path ds1 ds2).1 = L := ⟨_, rfl⟩
  obtain ⟨C, hC⟩ : ∃ C, (specM Dif.path ds1 ds2).2 = C := ⟨_, rfl⟩
  have DM := Lib.hid (fun A3 A4 c3 c4 W h1 h2 k1 k2 => diffs_rw A3 A4 n1 n2 c3 c4 ds1 ds2 W h1 h2 k1 k2 s1 s2 HP.out)
  have SM := Lib.hid (fun A3 A4 c3 c4 W h1 h2 => merged_rw A3 A4 n1 n2 c3 c4 ds1 ds2 W h1 h2 s1 s2)
  rw [hL, hC] at DM SM
  rw [hL] at HS1
  rw [hC] at HS2
  have hb0 := Lib.hid (Below.refl w.heap.size w)
  have EL := Lib.hid (fun A B c d W h1 h2 => equalDiffs_rw A B c d L.length L W h1 h2 HS1.out)
  have EC := Lib.hid (fun A B c d W h1 h2 => equalPairs_rw A B c d C.length C W h1 h2 HS2.out)
  clear hL hC HP
  go_enter Tryd.func3, Tryd.ntmps3
  go_wp2_with (first
    | (go_at_call_of 8 (Value.slice A1 n1 c1); (with_reducible refine (C1.out _ hb0.out).mono ?_); clear hb0; rintro e w1 ⟨A3, c3, rfl, hc3, hr, hb⟩; have R1 := Lib.hid hr; have HB1 := Lib.hid hb; clear hr hb)
    | (go_at_call_of 8 (Value.slice A2 n2 c2); (with_reducible refine (C2.out _ HB1.out).mono ?_); rintro e w2 ⟨A4, c4, rfl, hc4, hr, hb⟩; have R2 := Lib.hid hr; have R1' := Lib.hid (R1.out.below hb); have HB2 := Lib.hid (below_then HB1.out HB1.out.size hb); clear hr hb R1 HB1)
    | (go_at_call 7; (with_reducible refine (DM.out A3 A4 c3 c4 w2 R1'.out R2.out hc3 hc4).mono ?_); rintro e w3 ⟨A5, c5, A6, c6, rfl, h5, h6, hb⟩; have R5 := Lib.hid h5; have R6 := Lib.hid h6; have HB3 := Lib.hid (below_then HB2.out HB2.out.size hb); clear h5 h6 hb R1' R2 HB2)
    | (go_at_call_of 8 (Value.slice A1 n1 c1); (with_reducible refine (C1.out _ HB3.out).mono ?_); rintro e w4 ⟨A7, c7, rfl, hc7, hr, hb⟩; have R7 := Lib.hid hr; have r5 := Lib.hid (R5.out.below hb); have r6 := Lib.hid (R6.out.below hb); have HB4 := Lib.hid (below_then HB3.out HB3.out.size hb); clear hr hb R5 R6 HB3)
    | (go_at_call_of 8 (Value.slice A2 n2 c2); (with_reducible refine (C2.out _ HB4.out).mono ?_); rintro e w5 ⟨A8, c8, rfl, hc8, hr, hb⟩; have R8 := Lib.hid hr; have R7' := Lib.hid (R7.out.below hb); have R5 := Lib.hid (r5.out.below hb); have R6 := Lib.hid (r6.out.below hb); have HB5 := Lib.hid (below_then HB4.out HB4.out.size hb); clear hr hb R7 HB4 r5 r6)
    | (go_at_call 9; (with_reducible refine (SM.out A7 A8 c7 c8 w5 R7'.out R8.out).mono ?_); rintro e w6 ⟨B5, d5, B6, d6, rfl, h5, h6, hb⟩; have S5 := Lib.hid h5; have S6 := Lib.hid h6; have r5 := Lib.hid (R5.out.below hb); have r6 := Lib.hid (R6.out.below hb); have HB6 := Lib.hid (below_then HB5.out HB5.out.size hb); clear h5 h6 hb R7' R8 HB5 R5 R6)
    | (go_at_call 10; (with_reducible refine (EL.out A5 B5 c5 d5 w6 r5.out S5.out).mono ?_); rintro e w7 ⟨rfl, hb⟩; have R6 := Lib.hid (r6.out.below hb); have S6' := Lib.hid (S6.out.below hb); have HB7 := Lib.hid (below_then HB6.out HB6.out.size hb); clear hb r5 r6 S5 S6 HB6)
    | (go_at_call 12; (with_reducible refine (EC.out A6 B6 c6 d6 w7 R6.out S6'.out).mono ?_); rintro e w8 ⟨rfl, hb⟩; have HB8 := Lib.hid (below_then HB7.out HB7.out.size hb); clear hb R6 S6' HB7)
    | (go_at_call 6; (with_reducible refine (LV.out _).mono ?_); rintro e w9 ⟨rfl, hb⟩; have HB9 := Lib.hid (below_then HB8.out HB8.out.size hb); clear hb)
    | fail)
  go_ret
  exact ⟨rfl, HB9.out⟩
end Go.Proofs.YtijbdinemjiepaaDoor
