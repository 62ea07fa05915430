/- The walk of the law FnBitsOrder. -/
import Derived.Test.YtoebofppmkglfaaPlaces
import Derived.Test.YtoebofppmkglfaaOrderP
import Derived.Test.YtoebofppmkglfaaSize
import Derived.Test.YtoebofppmkglfaaSized
namespace Go.Proofs.Ytoebofppmkglfaa
open Go.RowKit

def ups (zs : List Int) : List Int := zs.filter fun z => decide (0 ≤ z)
def downs (zs : List Int) : List Int := zs.filter fun z => !decide (0 ≤ z)
theorem ups_snoc (zs : List Int) (z : Int) : ups (zs ++ [z]) = if 0 ≤ z then ups zs ++ [z] else ups zs := by
  unfold ups; split <;> simp_all
theorem downs_snoc (zs : List Int) (z : Int) : downs (zs ++ [z]) = if 0 ≤ z then downs zs else downs zs ++ [z] := by
  unfold downs; split <;> simp_all
theorem ups_length (zs : List Int) : (ups zs).length ≤ zs.length := List.length_filter_le _ _
theorem downs_length (zs : List Int) : (downs zs).length ≤ zs.length := List.length_filter_le _ _
theorem place_range (m : Nat) (hm : 1 ≤ m) (z : Int) : -(8 * (m : Int)) ≤ placeOf (8 * m) z ∧ placeOf (8 * m) z < 8 * (m : Int) := by
  unfold placeOf
  split
  · have m1 := Int.emod_nonneg z (show 8 * (m : Int) ≠ 0 by omega)
    have m2 := Int.emod_lt_of_pos z (show 0 < 8 * (m : Int) by omega)
    omega
  · have m1 := Int.emod_nonneg (-1 - z) (show 8 * (m : Int) ≠ 0 by omega)
    have m2 := Int.emod_lt_of_pos (-1 - z) (show 0 < 8 * (m : Int) by omega)
    omega
theorem places_range (m : Nat) (hm : 1 ≤ m) (zs : List Int) : ∀ z ∈ places (8 * m) zs, -(8 * (m : Int)) ≤ z ∧ z < 8 * (m : Int) := fun z hz => by
  obtain ⟨y, _, rfl⟩ := List.mem_map.1 hz
  exact place_range m hm y

set_option maxRecDepth 100000 in
set_option maxHeartbeats 1000000 in
theorem bitsOrder_any (b : Int) (A : Option Addr) (n c : Nat) (zs : List Int) (w : World) (hb0 : 0 ≤ b) (hb1 : b ≤ 255) (hr : Reads w w.heap.size 1 A n (i16s zs)) (hn : n ≤ 140737488355328) (hz : ∀ z ∈ zs, -32768 ≤ z ∧ z ≤ 32767) :
    Calls Try.prog 4 #[.int .u8 b, .slice A n c] w (Yes w) := by
  obtain ⟨i0, hi, hz0, hz1, hz2⟩ := info_parts infoInt
  have HR := Lib.hid hr
  have HZ := Lib.hid hz
  have hzn : zs.length = n := by have := hr.1; simp only [i16s_length, Nat.mul_one] at this; exact this
  have HZN := Lib.hid hzn
  clear hr hz hzn
  by_cases h1 : n > 2147483647
  · go_enter Try.func4, Try.ntmps4
    go_wp2
    go_ret
    exact ⟨rfl, Below.refl _ _⟩
  by_cases h2 : n > 3000
  · go_enter Try.func4, Try.ntmps4
    go_wp2_with (go_at_call 7; refine (shardSetting_any _).mono ?_; rintro e w2 ⟨rfl, hb2⟩)
    go_ret
    exact ⟨rfl, hb2⟩
  obtain ⟨m, hm⟩ : ∃ m : Nat, 1 + b = m := ⟨(1 + b).toNat, by omega⟩
  have HM := Lib.hid hm
  have hm1 : 1 ≤ m := by omega
  have hm2 : m ≤ 100000 := by omega
  have hn3 : n ≤ 3000 := by omega
  have HP := Lib.hid (places_range m hm1 zs)
  have hpl : (places (8 * m) zs).length = n := by have := HZN.out; simp [places, this]
  clear hm h1 h2
  go_enter Try.func4, Try.ntmps4
  go_wp2_with (go_at_call 8; rw [HM.out]; refine (shardPlaces_any _ _ _ _ _ _ _ HR.out (Nat.le_refl _) hm1 hm2 hn3 HZ.out).mono ?_; rintro e w1 ⟨⟨v1, rfl, hown1⟩, hb1⟩; obtain ⟨A1, c1, rfl, hc1, hr1⟩ := own_shape hown1; have HR1 := Lib.hid hr1; clear hown1 hr1)
  generalize places (8 * m) zs = ps at HR1 HP hpl
  have HPL := Lib.hid hpl
  have w1s := hb1.size
  clear hpl
  go_loopw [6, 7, 33] (fun u d i wr => ∃ j p q : Nat, j ≤ n ∧ p ≤ j ∧ q ≤ j ∧ i = .int .i64 j ∧ wr.ownsRow w1.heap.size 3 1 u p (i64s (ups (ps.take j))) ∧ wr.ownsRow w1.heap.size 3 1 d q (i64s (downs (ps.take j))) ∧ Apart u d ∧ Below w1.heap.size w1 wr) (fun _ _ i _ => n - (intOf i).toNat)
  case atStart => exact ⟨0, 0, 0, Nat.zero_le _, Nat.le_refl _, Nat.le_refl _, rfl, World.ownsRow_nil _ _ _ _, World.ownsRow_nil _ _ _ _, apart_nil _, Below.refl _ _⟩
  case round =>
    obtain ⟨j, p, q, hj, hp, hq, rfl, hou, hod, hap, hbw⟩ := hrel
    have HOU := Lib.hid hou
    have HOD := Lib.hid hod
    have HAP := Lib.hid hap
    clear hou hod hap
    have b4 := hbw.size
    by_cases hlt : j < n
    · have hjp : j < ps.length := by have := HPL.out; omega
      obtain ⟨ad, x, rfl, _, hx, hcell⟩ := (HR1.out.below hbw).at_ hlt
      rw [i64s_at _ _ hjp] at hx
      obtain rfl := Option.some.inj hx
      have hts := Lib.hid (take_snoc ps j hjp)
      generalize ps[j] = z at hcell hts
      clear hx
      have b1 : p + 1 ≤ maxLen := by unfold maxLen; omega
      have b2 : (p + 1) * 8 ≤ 140737488355328 := by omega
      have d1 : q + 1 ≤ maxLen := by unfold maxLen; omega
      have d2 : (q + 1) * 8 ≤ 140737488355328 := by omega
      by_cases h0 : 0 ≤ z
      · go_wp2_with (at_builtin; refine wpList_append_one rfl (.tmp 39) (.tmp 41) 29 rfl w1.heap.size i0 (.int .i64 0) 8 Try.underlying29 hi hz0 hz1 hz2 rfl _ p _ rfl HOU.out rfl rfl b1 b2 b4 ?_; rintro v2 w2 hown2 hg2 hat2 _; have HO2 := Lib.hid hown2; have HAT := Lib.hid hat2; clear hown2 hat2)
        go_roundw
        case rel =>
          refine ⟨j + 1, p + 1, q, by omega, by omega, by omega, by go_num, ?_, ?_, apart_grown HOD.out HAP.out HAT.out, hbw.grown hg2 hbw.size (own_base HOU.out)⟩
          · rw [hts.out, ups_snoc, if_pos h0, i64s_append]; exact HO2.out
          · rw [hts.out, downs_snoc, if_pos h0]; exact own_beside HOD.out hg2 HAP.out
        case measure => simp [intOf]; omega
      · go_wp2_with (at_builtin; refine wpList_append_one rfl (.tmp 43) (.tmp 45) 29 rfl w1.heap.size i0 (.int .i64 0) 8 Try.underlying29 hi hz0 hz1 hz2 rfl _ q _ rfl HOD.out rfl rfl d1 d2 b4 ?_; rintro v2 w2 hown2 hg2 hat2 _; have HO2 := Lib.hid hown2; have HAT := Lib.hid hat2; clear hown2 hat2)
        go_roundw
        case rel =>
          refine ⟨j + 1, p, q + 1, by omega, by omega, by omega, by go_num, ?_, ?_, (apart_grown HOU.out HAP.out.symm HAT.out).symm, hbw.grown hg2 hbw.size (own_base HOD.out)⟩
          · rw [hts.out, ups_snoc, if_neg (by omega)]; exact own_beside HOU.out hg2 HAP.out.symm
          · rw [hts.out, downs_snoc, if_neg (by omega), i64s_append]; exact HO2.out
        case measure => simp [intOf]; omega
    · have HF := Lib.hid (show ps.take j = ps from List.take_of_length_le (by have := HPL.out; omega))
      rw [HF.out] at HOU HOD
      clear HF
      obtain ⟨wo, rfl⟩ : ∃ wo : World, wo = wr := ⟨_, rfl⟩
      obtain ⟨Au, cu, rfl, hcu, hru⟩ := own_shape HOU.out
      obtain ⟨Ad, cd, rfl, hcd, hrd⟩ := own_shape HOD.out
      have HRU := Lib.hid hru
      have HRD := Lib.hid hrd
      have hp3 : p ≤ 17592186044416 := by omega
      clear hru hrd
      go_wp2_with (first | (go_at_call 9; refine (clone_i64 _ _ _ _ _ _ HRU.out (i64s_one _) hp3 (Nat.le_refl _)).mono ?_; rintro e w3 ⟨⟨v3, rfl, hown3, _⟩, hb3⟩; have HO3 := Lib.hid hown3; clear hown3) | (go_at_call 10; refine (reverse_i64 _ _ _ _ _ HO3.out hp3).mono ?_; rintro e w4 ⟨rfl, hown4, hg4⟩; have HO4 := Lib.hid hown4; clear hown4))
      have hb4 := hb3.grown hg4 hb3.size (own_base HO3.out)
      have hqd : (downs ps).length = q := by have := HOD.out.1; simp only [i64s_length, Nat.mul_one] at this; exact this
      have hpu : (ups ps).length = p := by have := HOU.out.1; simp only [i64s_length, Nat.mul_one] at this; exact this
      have HQ := Lib.hid hqd
      have HPU := Lib.hid hpu
      clear hqd hpu
      go_loopw [11, 54] (fun t i wr => ∃ k : Nat, k ≤ q ∧ i = .int .i64 k ∧ wr.ownsRow w4.heap.size 3 1 t k (i64s (((downs ps).take k).map (-1 - ·))) ∧ Below w4.heap.size w4 wr) (fun _ i _ => q - (intOf i).toNat)
      case atStart => exact ⟨0, Nat.zero_le _, rfl, World.ownsRow_nil _ _ _ _, Below.refl _ _⟩
      case round =>
        obtain ⟨k, hk, rfl, hot, hbx⟩ := hrel
        have HOT := Lib.hid hot
        clear hot
        have b5 := hbx.size
        by_cases hlt : k < q
        · have hkp : k < (downs ps).length := by have := HQ.out; omega
          have hrd4 := (HRD.out.below hb4).below (hbx.mono hb4.size)
          obtain ⟨ad, x, rfl, _, hx, hcell⟩ := hrd4.at_ hlt
          rw [i64s_at _ _ hkp] at hx
          obtain rfl := Option.some.inj hx
          have hts := Lib.hid (take_snoc (downs ps) k hkp)
          obtain ⟨r1, r2⟩ := HP.out _ (List.mem_filter.1 (List.getElem_mem hkp)).1
          generalize (downs ps)[k] = z at hcell hts r1 r2
          clear hx hrd4
          have d1 : k + 1 ≤ maxLen := by unfold maxLen; omega
          have d2 : (k + 1) * 8 ≤ 140737488355328 := by omega
          go_wp2_with (at_builtin; refine wpList_append_one rfl (.tmp 58) (.tmp 61) 29 rfl w4.heap.size i0 (.int .i64 0) 8 Try.underlying29 hi hz0 hz1 hz2 rfl _ k _ rfl HOT.out rfl rfl d1 d2 b5 ?_; rintro v2 w2 hown2 hg2 hat2 _; have HO2 := Lib.hid hown2; clear hown2 hat2)
          go_roundw
          case rel => exact ⟨k + 1, by omega, by go_num, by rw [hts.out, List.map_append, i64s_append]; exact HO2.out, hbx.grown hg2 hbx.size (own_base HOT.out)⟩
          case measure => simp [intOf]; omega
        · have HF := Lib.hid (show (downs ps).take k = downs ps from List.take_of_length_le (by have := HQ.out; omega))
          rw [HF.out] at HOT
          obtain rfl : q = k := by omega
          clear HF
          obtain ⟨At, ct, rfl, hct, hrt⟩ := own_shape HOT.out
          obtain ⟨Av, cv, rfl, hcv, hrv⟩ := own_shape HO4.out
          have e0 : Below wo.heap.size wo wr := hb4.trans (hbx.mono hb4.size)
          have sx : wo.heap.size ≤ wr.heap.size := e0.size
          have ru := (HRU.out.below e0).more sx
          have rd := (HRD.out.below e0).more sx
          have rv := (hrv.below hbx).more hbx.size
          have H1 := Lib.hid ((RowsI.nil wr wr.heap.size).cons rd hcd |>.cons ru hcu)
          have H2 := Lib.hid ((RowsI.nil wr wr.heap.size).cons rd hcd |>.cons rd hcd |>.cons hrt hct |>.cons rv hcv)
          clear ru rd rv hrv hrt
          have hu' : ∀ z ∈ ups ps, 0 ≤ z ∧ z < 8 * (m : Int) := fun z hz => by
            obtain ⟨h1, h2⟩ := List.mem_filter.1 hz
            exact ⟨of_decide_eq_true h2, (HP.out z h1).2⟩
          have hd' : ∀ z ∈ downs ps, z < 0 ∧ -(8 * (m : Int)) ≤ z := fun z hz => by
            obtain ⟨h1, h2⟩ := List.mem_filter.1 hz
            simp at h2
            exact ⟨h2, (HP.out z h1).1⟩
          have HSAME := Lib.hid (orders_same m (ups ps) (downs ps) hu' hd')
          have n1 : [ups ps, downs ps].flatten.length = p + q := by simp [HPU.out, HQ.out]
          have n2 : [(ups ps).reverse, (downs ps).map (-1 - ·), downs ps, downs ps].flatten.length = p + (q + (q + q)) := by simp [HPU.out, HQ.out]
          have z1 : ∀ z ∈ [ups ps, downs ps].flatten, -(8 * (m : Int)) ≤ z ∧ z < 8 * (m : Int) := fun z hz => by
            simp only [List.flatten_cons, List.flatten_nil, List.append_nil, List.mem_append] at hz
            rcases hz with hz | hz
            · have := hu' z hz; omega
            · have := hd' z hz; omega
          have z2 : ∀ z ∈ [(ups ps).reverse, (downs ps).map (-1 - ·), downs ps, downs ps].flatten, -(8 * (m : Int)) ≤ z ∧ z < 8 * (m : Int) := fun z hz => by
            simp only [List.flatten_cons, List.flatten_nil, List.append_nil, List.mem_append, List.mem_reverse, List.mem_map] at hz
            rcases hz with hz | ⟨y, hy, rfl⟩ | hz | hz
            · have := hu' z hz; omega
            · have := hd' y hy; omega
            · have := hd' z hz; omega
            · have := hd' z hz; omega
          have N1 := Lib.hid n1
          have N2 := Lib.hid n2
          have Z1 := Lib.hid z1
          have Z2 := Lib.hid z2
          clear hu' hd' n1 n2 z1 z2
          have H1' := Lib.hid ((H1.out.below (below_one wr (.cells #[.slice Au p cu, .slice Ad q cd] 29))).more (Nat.le_succ wr.heap.size))
          have L1 : Hid (Reads (wr.alloc (.cells #[.slice Au p cu, .slice Ad q cd] 29)) (wr.heap.size + 1) 1 (some ⟨wr.heap.size, 0, none⟩) 2 [.slice Au p cu, .slice Ad q cd]) := reads_lit wr 29 _
          go_wp2_with fail
          refine (concat_i64 _ _ _ _ _ _ _ _ L1.out H1'.out N1.out (by simp) (by omega) (by omega)).mono ?_
          rintro e w5 ⟨⟨v5, rfl, ho5⟩, hb5⟩
          obtain ⟨A5, c5, rfl, hc5, hr5⟩ := own_shape ho5
          have HR5 := Lib.hid hr5
          clear ho5 hr5 H1 H1' L1
          go_wp2_with fail
          refine (bitsSet_ok _ _ _ _ _ _ _ HR5.out (Nat.le_refl _) hm2 (by omega) Z1.out).mono ?_
          rintro e w6 ⟨⟨v6, rfl, ho6⟩, hb6⟩
          generalize hF6 : bare (fieldOf m [ups ps, downs ps].flatten) = F6 at ho6
          have HF6 := Lib.hid hF6
          clear hF6
          obtain ⟨A6, c6, rfl, hc6, hr6⟩ := own_shape ho6
          have HR6 := Lib.hid hr6
          clear ho6 hr6 HR5
          have g6 : Below wr.heap.size wr w6 := (below_then (below_one _ _) (by simp) hb5).trans (hb6.mono (Nat.le_trans (by simp) hb5.size))
          have H2' := Lib.hid (((H2.out.below g6).below (below_one w6 (.cells #[.slice Av p cv, .slice At q ct, .slice Ad q cd, .slice Ad q cd] 29) |>.mono g6.size)).more (Nat.le_succ_of_le g6.size))
          have L2 : Hid (Reads (w6.alloc (.cells #[.slice Av p cv, .slice At q ct, .slice Ad q cd, .slice Ad q cd] 29)) (w6.heap.size + 1) 1 (some ⟨w6.heap.size, 0, none⟩) 4 [.slice Av p cv, .slice At q ct, .slice Ad q cd, .slice Ad q cd]) := reads_lit w6 29 _
          go_wp2_with fail
          refine (concat_i64 _ _ _ _ _ _ _ _ L2.out H2'.out N2.out (by simp) (by omega) (by omega)).mono ?_
          rintro e w7 ⟨⟨v7, rfl, ho7⟩, hb7⟩
          obtain ⟨A7, c7, rfl, hc7, hr7⟩ := own_shape ho7
          have HR7 := Lib.hid hr7
          clear ho7 hr7 H2 H2' L2
          go_wp2_with fail
          refine (bitsSet_ok _ _ _ _ _ _ _ HR7.out (Nat.le_refl _) hm2 (by omega) Z2.out).mono ?_
          rintro e w8 ⟨⟨v8, rfl, ho8⟩, hb8⟩
          rw [← HSAME.out, HF6.out] at ho8
          obtain ⟨A8, c8, rfl, hc8, hr8⟩ := own_shape ho8
          have g8 : Below w6.heap.size w6 w8 := (below_then (below_one _ _) (by simp) hb7).trans (hb8.mono (Nat.le_trans (by simp) hb7.size))
          have HR8 := Lib.hid hr8
          have HR6' := Lib.hid (HR6.out.below g8)
          clear ho8 hr8 HR7 HR6
          have e1 := sameB_self F6
          clear HSAME HF6 Z1 Z2 N1 N2 HP HZ HOU HOD HAP HO3 HO4 HRU HRD
          go_wp2_with (first | (go_at_call 12; refine (equal_u8 _ _ _ _ _ _ _ _ F6 F6 _ HR6'.out HR8.out).mono ?_; rintro e w9 ⟨rfl, rfl⟩) | (go_at_call 7; refine (shardSetting_any _).mono ?_; rintro e w10 ⟨rfl, hb10⟩))
          go_ret
          have f0 : Below w.heap.size w wo := below_then hb1 hb1.size hbw
          exact ⟨rfl, (((f0.trans (e0.mono f0.size)).trans (g6.mono (Nat.le_trans f0.size e0.size))).trans (g8.mono (Nat.le_trans (Nat.le_trans f0.size e0.size) g6.size))).trans (hb10.mono (Nat.le_trans (Nat.le_trans (Nat.le_trans f0.size e0.size) g6.size) g8.size))⟩

theorem bitsOrder_row (b : Int) (A : Option Addr) (n c : Nat) (zs : List Int) (w : World) (hb : (Lit.int .u8 b).wf = true) (hr : IsRow .i16 w A n c zs) (hs : n * 2 ≤ 140737488351232) :
    Calls Try.prog 4 #[.int .u8 b, .slice A n c] w fun e w' => e = .returned (.bool true) ∧ Below w.heap.size w w' := by
  simp [Lit.wf, IntKind.min, IntKind.max, IntKind.signed, IntKind.bits] at hb
  obtain ⟨_, h1, h2, _⟩ := isRow_reads hr
  refine (bitsOrder_any b A n c (zs.take n) w (by omega) (by omega) h1 (by omega) fun z hz => ?_).mono fun _ _ ⟨h1, h2⟩ => ⟨h1, h2⟩
  have := h2 z hz
  simp [Lit.wf, IntKind.min, IntKind.max, IntKind.signed, IntKind.bits] at this
  omega
end Go.Proofs.Ytoebofppmkglfaa
