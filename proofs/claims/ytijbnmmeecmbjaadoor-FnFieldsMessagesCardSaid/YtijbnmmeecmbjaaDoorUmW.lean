/- Unmarshal of the message Data of UnixFS: known fields are read as the plain law says. -/
import Derived.Deep.CutBlock
import Derived.Test.YtijbnmmeecmbjaaDoorUmL
namespace Go.Proofs.YtijbnmmeecmbjaaDoor
open Go.RowKit

set_option maxRecDepth 100000 in
set_option maxHeartbeats 40000000 in
theorem unmarshal_any (T : TypeId) (b : Nat) (A : Option Addr) (n c : Nat) (l : List UInt8) (w : World) (a0 a1 a2 a3 : Addr) (hT : TyOk T) (hr : Reads w b 1 A n (u8s l)) (hnc : n ≤ c) (hn : c ≤ 9223372036854775807) (hn2 : n ≤ 1000000) (hrun : runOk 0 l = true) (hkn : Kn l) (he : ErrsF w a0 a1 a2 a3) (h5 : 5 ≤ b)
    (hb : Blk w b T #[.pointer none, .slice none 0 0, .pointer none, .slice none 0 0, .pointer none, .pointer none, .slice none 0 0, .int .i32 0]) :
    Calls Tryd.prog 41 #[.pointer (some ⟨b, 0, none⟩), .slice A n c] w (UmIs T b (ms l.length FSt.zero l) w) := by
  have hln : l.length = n := by have := hr.1; rw [u8s_length] at this; omega
  have hblt := hb.lt
  have HD0 : Hid (DRep (w.alloc (.cells #[.int .u64 0] 85)) T b w.heap.size 0 FSt.zero (.pointer none) (.slice none 0 0) (.pointer none) (.slice none 0 0) (.pointer none) (.pointer none)) := ⟨hb.alloc _, Blk.new _ _ _, hblt, .inl ⟨rfl, rfl⟩, World.ownsRow_nil _ _ _ _, .inl ⟨rfl, rfl⟩, World.ownsRow_nil _ _ _ _, .inl ⟨rfl, rfl⟩, .inl ⟨rfl, rfl⟩⟩
  obtain ⟨R, hR⟩ : ∃ R, ms l.length FSt.zero l = R := ⟨_, rfl⟩
  rw [hR]
  have HB0 := Lib.hid ((Below.refl b w).alloc (Nat.le_of_lt hblt) (.cells #[.int .u64 0] 85))
  have HR := Lib.hid hr
  have HLN := Lib.hid hln
  have HRUN := Lib.hid hrun
  have HKN := Lib.hid hkn
  have HE := Lib.hid he
  have HMS := Lib.hid hR
  clear hr hln hrun hkn he hb hR
  go_enter Tryd.func41, Tryd.ntmps41
  go_wp2
  refine wp_loop_ghost_k (fun k a wr => ∃ (i : Nat) (st : FSt) (hv : Nat) (vt vd vz vb vh vf : Value), Fr a b w.heap.size n (.slice A n c) i ∧ i ≤ n ∧ Hid ((l.drop i).length ≤ k) ∧ Hid (DRep wr T b w.heap.size hv st vt vd vz vb vh vf) ∧ Hid (Kn (l.drop i)) ∧ Hid (Below b w wr) ∧ Hid (ms k st (l.drop i) = R) ∧ Hid (hv = if st.ty.isSome then 1 else 0) ∧ Hid (st.sizes.length ≤ i)) l.length ?start ?round
  case start => exact ⟨0, FSt.zero, 0, _, _, _, _, _, _, ⟨rfl, rfl, rfl, rfl, rfl, rfl, rfl⟩, Nat.zero_le _, Nat.le_refl _, HD0.out, HKN.out, HB0.out, HMS.out, rfl, Nat.zero_le _⟩
  case round =>
    intro gk a wr hI J K hJ hK
    obtain ⟨i, st, hv, vt, vd, vz, vb, vh, vf, hfr, hin, HK, HD, HKn, HB, HM, HV, HSZ⟩ := hI
    obtain ⟨u, rfl⟩ := hfr.open_
    clear hfr
    have hE := HE.out.below HB.out h5
    have g0 := hE.e0
    have g1 := hE.e1
    have g2 := hE.e2
    have g3 := hE.e3
    have g5 := hE.lt
    have gx0 : 0 < wr.heap.size := by omega
    have gx1 : 1 < wr.heap.size := by omega
    have gx2 : 2 < wr.heap.size := by omega
    have gx3 : 3 < wr.heap.size := by omega
    clear hE
    by_cases hend : n ≤ i
    · have hd : l.drop i = [] := List.drop_of_length_le (by have := HLN.out; omega)
      have HRS : Hid (R = some st) := by have h := HM.out; rw [hd, ms_nil] at h; exact h.symm
      have hlt : ¬ (i : Int) < n := by omega
      have hgt : ¬ (n : Int) < i := by omega
      have ch := HD.out.has.cell 0
      cases hty : st.ty with
      | none =>
        have h0 : hv = 0 := by have h := HV.out; rw [hty] at h; exact h
        subst h0
        have ea : bits .and .u64 0 1 = 0 := by decide +kernel
        have HTY := Lib.hid hty
        clear hty hd
        go_wp2
        go_ret
        exact ⟨HB.out, .inl ⟨.inr ⟨st, HRS.out, HTY.out⟩, _, rfl⟩⟩
      | some t =>
        have h0 : hv = 1 := by have h := HV.out; rw [hty] at h; exact h
        subst h0
        have ea : bits .and .u64 1 1 = 1 := by decide +kernel
        have HTY := Lib.hid hty
        clear hty hd
        go_wp2
        go_ret
        exact ⟨HB.out, .inr ⟨st, _, _, _, _, _, _, _, _, HRS.out, fun e => by rw [HTY.out] at e; (cases e), rfl, HD.out⟩⟩
    · have hlt : i < n := by omega
      obtain ⟨g, o, rfl, hgb, -⟩ := HR.out.lit hlt
      have hxl : (l.drop i).length = n - i := by rw [List.length_drop, HLN.out]
      have HP := Lib.hid (Part.start (runOk_drop HRUN.out i))
      have HXL := Lib.hid hxl
      clear hxl
      go_wp2_with fail
      refine wp_loop_ghost_k (fun k a wx => wx = wr ∧ ∃ j acc : Nat, Fr a b w.heap.size n (.slice (some ⟨g, o, none⟩) n c) (i + j) ∧ a.tmps.getD 9 undef = .int .u64 acc ∧ a.tmps.getD 10 undef = .int .u64 ((7 * j : Nat) : Int) ∧ Hid (k + j = 9) ∧ Hid (Part (l.drop i) j acc)) 9 ?wstart ?wround
      case wstart => exact ⟨rfl, 0, 0, ⟨rfl, rfl, rfl, rfl, rfl, rfl, rfl⟩, rfl, rfl, rfl, HP.out⟩
      case wround =>
        intro wk a wx hI J2 K2 hJ2 hK2
        obtain ⟨rfl, j, acc, hfr, h9, h10, HK2, hg⟩ := hI
        obtain ⟨p, hp⟩ : ∃ p, i + j = p := ⟨_, rfl⟩
        rw [hp] at hfr
        have HPP := Lib.hid hp
        obtain ⟨u, rfl⟩ := hfr.open_
        replace h9 : u 9 = _ := h9
        replace h10 : u 10 = _ := h10
        rw [h9, h10]
        clear hfr h9 h10 hp
        have hj8 := hg.out.lt
        have hRx := HR.out.below HB.out
        by_cases hpe : n ≤ p
        · have HRN : Hid (R = none) := HM.out.symm.trans (ms_torn (pt_none1 (hg.out.torn (by have := HXL.out; have := HPP.out; omega))) (by have := HXL.out; omega) HK.out)
          clear hRx
          go_wp2
          go_ret
          exact UmIs.err HB.out HRN.out
        · obtain ⟨m, hm1, hm2, hm3⟩ := byte_in hRx HPP.out (by omega)
          by_cases hs : m.toNat < 128
          · obtain ⟨h1, h2⟩ := hg.out.last hm1 hs
            have e1 := low7b m.toNat hm3
            have e2 := or_join (7 * j) acc m.toNat hg.out.low (by omega)
            rw [Nat.mod_eq_of_lt hs] at e1
            obtain ⟨hko, hks⟩ := HKn.out.key h1
            have HVI := Lib.hid h1
            have HKS := Lib.hid hks
            have hb64 := HD.out.blk.lt
            have hh64 := HD.out.has.lt
            have hg64 : g < wx.heap.size := Nat.lt_trans hgb hb64
            have cb0 := HD.out.blk.cell 0
            have cb1 := HD.out.blk.cell 1
            have cb2 := HD.out.blk.cell 2
            have cb3 := HD.out.blk.cell 3
            have cb4 := HD.out.blk.cell 4
            have cb5 := HD.out.blk.cell 5
            have fb := HD.out.blk.frozen
            have ch := HD.out.has.cell 0
            have fh := HD.out.has.frozen 0
            have eh : bits .or .u64 (hv : Int) 1 = 1 := mark_or HV.out
            clear hm1 h1 h2 hRx hks
            generalize m.toNat = mm at *
            generalize acc + mm * 2 ^ (7 * j) = key at *
            rcases hko with rfl | rfl | rfl | rfl | rfl | rfl | rfl
            · have ek : bits .and .u64 8 7 = 0 := low3 8 (by omega)
              go_wp2_with fail
              refine wp_loop_ghost_k (fun k a wy => ∃ j2 acc2 : Nat, wy = wx.alloc (.cells #[.int .i32 (i32w acc2)] 75) ∧ Fr a b w.heap.size n (.slice (some ⟨g, o, none⟩) n c) (p + 1 + j2) ∧ a.tmps.getD 14 undef = .pointer (some ⟨wx.heap.size, 0, none⟩) ∧ a.tmps.getD 15 undef = .int .u64 ((7 * j2 : Nat) : Int) ∧ Hid (k + j2 = 9) ∧ Hid (Part (l.drop (p + 1)) j2 acc2)) 9 ?start8 ?round8
              case start8 => exact ⟨0, 0, rfl, ⟨rfl, rfl, rfl, rfl, rfl, rfl, rfl⟩, rfl, rfl, rfl, Part.start (runOk_drop HRUN.out (p + 1))⟩
              case round8 =>
                intro wk3 a wy hI J3 K3 hJ3 hK3
                obtain ⟨j2, acc2, rfl, hfr, h9, h10, HK3, hg2⟩ := hI
                obtain ⟨p2, hp⟩ : ∃ p2, p + 1 + j2 = p2 := ⟨_, rfl⟩
                rw [hp] at hfr
                have HPP2 := Lib.hid hp
                obtain ⟨u3, rfl⟩ := hfr.open_
                replace h9 : u3 14 = _ := h9
                replace h10 : u3 15 = _ := h10
                rw [h9, h10]
                clear hfr h9 h10 hp
                have hj8 := hg2.out.lt
                have hlow2 := hg2.out.low
                have hRx := HR.out.below (HB.out)
                by_cases hpe : n ≤ p2
                · have HRN : Hid (R = none) := HM.out.symm.trans (ms_torn (torn2 HVI.out HPP.out (hg2.out.torn (by rw [List.length_drop, HLN.out]; have := HPP2.out; omega))) (by have := HXL.out; omega) HK.out)
                  clear hRx hlow2
                  go_wp2
                  go_ret
                  exact UmIs.err ((HB.out).alloc (Nat.le_of_lt hb64) _) HRN.out
                · obtain ⟨m2, hm1, hm2, hm3⟩ := byte_in hRx HPP2.out (by omega)
                  by_cases hs : m2.toNat < 128
                  · obtain ⟨h1, h2⟩ := hg2.out.last hm1 hs
                    have e1 := low7b m2.toNat hm3
                    rw [Nat.mod_eq_of_lt hs] at e1
                    have hsh := sh32 m2.toNat j2
                    have e2 := or32 (7 * j2) acc2 m2.toNat hlow2
                    have HV2 := Lib.hid h1
                    have HX2 := Lib.hid h2
                    clear hm1 h1 h2 hRx hlow2
                    generalize m2.toNat = mm2 at *
                    generalize mm2 * 2 ^ (7 * j2) = sft at *
                    generalize acc2 + sft = x at *
                    have HNE := num_end HM.out HK.out HVI.out HPP.out HPP2.out HV2.out rfl HKS.out (st' := { st with ty := some (i32w x) }) rfl
                    obtain ⟨hne, HM2, HKn2, HK2'⟩ := HNE
                    replace HM2 := Lib.hid HM2
                    replace HKn2 := Lib.hid HKn2
                    replace HK2' := Lib.hid HK2'
                    go_wp2
                    refine Handed.intro (gk - 1) (by have := hne; omega) (hJ _ _ _ ?_)
                    rw [ty_world hb64 hh64]
                    exact ⟨p2 + 1, _, 1, _, vd, vz, vb, vh, vf, ⟨rfl, rfl, rfl, rfl, rfl, rfl, (show Value.int .i64 ((p2 : Int) + 1) = _ from congrArg (Value.int .i64) (by omega))⟩, by omega, HK2', ((HD.out.alloc _).setTy (Blk.new _ _ _) hb64).mark 1, HKn2, ((HB.out.alloc (Nat.le_of_lt hb64) _).setCell (Nat.le_refl b) _).setCell (Nat.le_of_lt HD.out.bhf) _, HM2, rfl, Nat.le_trans HSZ.out (by have := HPP.out; have := HPP2.out; omega)⟩
                  · have hnx := hg2.out.next hm1 hs
                    have e1 := low7b m2.toNat hm3
                    have hnl := hnx.low
                    have hnj := hnx.lt
                    have h64 : acc2 + m2.toNat % 128 * 2 ^ (7 * j2) < 9223372036854775808 := Nat.lt_of_lt_of_le hnl (Nat.le_trans (Nat.pow_le_pow_right (by omega) (show 7 * (j2 + 1) ≤ 63 by omega)) (by decide))
                    have hsh := sh32 (m2.toNat % 128) j2
                    have e2 := or32 (7 * j2) acc2 (m2.toNat % 128) hlow2
                    have hq : m2.toNat % 128 < 128 := by omega
                    have HNX := Lib.hid hnx
                    clear hm1 hnx hnl h64 hRx hlow2
                    generalize m2.toNat % 128 = qq at *
                    generalize m2.toNat = mm2 at *
                    generalize qq * 2 ^ (7 * j2) = sft at *
                    generalize acc2 + sft = v at *
                    go_wp2
                    refine Handed.intro (wk3 - 1) (by have := HK3.out; omega) (hJ3 _ _ _ ?_)
                    exact ⟨j2 + 1, v, rfl, ⟨rfl, rfl, rfl, rfl, rfl, rfl, (show Value.int .i64 ((p2 : Int) + 1) = _ from congrArg (Value.int .i64) (by have := HPP2.out; omega))⟩, rfl, (show Value.int .u64 (7 * (j2 : Int) + 7) = _ from congrArg (Value.int .u64) (by omega)), by have := HK3.out; show _ = _; omega, HNX.out⟩
            · have ek : bits .and .u64 18 7 = 2 := low3 18 (by omega)
              go_wp2_with fail
              refine wp_loop_ghost_k (fun k a wy => ∃ j2 acc2 : Nat, wy = wx ∧ Fr a b w.heap.size n (.slice (some ⟨g, o, none⟩) n c) (p + 1 + j2) ∧ a.tmps.getD 17 undef = .int .i64 (acc2 : Int) ∧ a.tmps.getD 18 undef = .int .u64 ((7 * j2 : Nat) : Int) ∧ Hid (k + j2 = 9) ∧ Hid (Part (l.drop (p + 1)) j2 acc2)) 9 ?start18 ?round18
              case start18 => exact ⟨0, 0, rfl, ⟨rfl, rfl, rfl, rfl, rfl, rfl, rfl⟩, rfl, rfl, rfl, Part.start (runOk_drop HRUN.out (p + 1))⟩
              case round18 =>
                intro wk3 a wy hI J3 K3 hJ3 hK3
                obtain ⟨j2, acc2, rfl, hfr, h9, h10, HK3, hg2⟩ := hI
                obtain ⟨p2, hp⟩ : ∃ p2, p + 1 + j2 = p2 := ⟨_, rfl⟩
                rw [hp] at hfr
                have HPP2 := Lib.hid hp
                obtain ⟨u3, rfl⟩ := hfr.open_
                replace h9 : u3 17 = _ := h9
                replace h10 : u3 18 = _ := h10
                rw [h9, h10]
                clear hfr h9 h10 hp
                have hj8 := hg2.out.lt
                have hlow2 := hg2.out.low
                have hRx := HR.out.below (HB.out)
                by_cases hpe : n ≤ p2
                · have HRN : Hid (R = none) := HM.out.symm.trans (ms_torn (torn2 HVI.out HPP.out (hg2.out.torn (by rw [List.length_drop, HLN.out]; have := HPP2.out; omega))) (by have := HXL.out; omega) HK.out)
                  clear hRx hlow2
                  go_wp2
                  go_ret
                  exact UmIs.err (HB.out) HRN.out
                · obtain ⟨m2, hm1, hm2, hm3⟩ := byte_in hRx HPP2.out (by omega)
                  by_cases hs : m2.toNat < 128
                  · obtain ⟨h1, h2⟩ := hg2.out.last hm1 hs
                    have e1 := low7b m2.toNat hm3
                    rw [Nat.mod_eq_of_lt hs] at e1
                    have e2 := or64 (7 * j2) acc2 m2.toNat hlow2 (by omega)
                    have HV2 := Lib.hid h1
                    have HX2 := Lib.hid h2
                    clear hm1 h1 h2 hRx hlow2
                    generalize m2.toNat = mm2 at *
                    generalize acc2 + mm2 * 2 ^ (7 * j2) = x at *
                    by_cases hx : p2 + 1 + x ≤ n
                    · have hxn : x ≤ n := Nat.le_trans (Nat.le_add_left _ _) hx
                      have HNE := bytes_end HM.out HK.out HVI.out HPP.out HPP2.out HV2.out rfl HLN.out hx HKS.out (st' := { st with data := (l.drop (p2 + 1)).take x }) rfl
                      have hlv : ((l.drop (p2 + 1)).take x).length = x := take_len HLN.out hx
                      obtain ⟨hne, HM2, HKn2, HK2'⟩ := HNE
                      replace HM2 := Lib.hid HM2
                      replace HKn2 := Lib.hid HKn2
                      replace HK2' := Lib.hid HK2'
                      replace hlv := Lib.hid hlv
                      have hpn : p2 + 1 ≤ n := Nat.succ_le_of_lt (Nat.lt_of_not_le hpe)
                      have HSL := Lib.hid (head_slice (cut_slice (HR.out.below HB.out) hpn hnc) (le_of_sum hx))
                      have HI := Lib.hid (info_parts infoU8)
                      obtain ⟨i0, hi, hz0, hz1, hz2⟩ := HI.out
                      have hnx : n ≤ 100000000 := Nat.le_trans hn2 (by decide)
                      have HOW := Lib.hid HD.out.data
                      have HB63 := Lib.hid (le_max (Nat.le_trans hxn hn2))
                      have HB47 := Lib.hid (le_47 (Nat.le_trans hxn hn2))
                      have hsb1 := sb1 hx hnc
                      have hqn := eql_nil
                      have hsb2 := sb2 p2 x
                      have hsb3 := sb3 p2 x
                      have hsb4 := sb4 p2 x
                      by_cases hx0 : 0 < x
                      · have hcp : ¬ c = p2 + 1 := ne_of_sum hx hx0 hnc
                        have hsl := HSL.out
                        rw [if_neg hcp] at hsl
                        have HNL : Hid ((u8s ((l.drop (p2 + 1)).take x)).length = x * 1) := by show _ = _; rw [u8s_length, hlv.out, Nat.mul_one]
                        have HNW : Hid (∀ j u, (u8s ((l.drop (p2 + 1)).take x))[j]? = some u → wy.cell? ((⟨g, o + (p2 + 1), none⟩ : Addr).add j) = some u) := by
                          obtain ⟨ad, e, -, h⟩ := hsl.2 hx0
                          obtain rfl := Option.some.inj e
                          exact h
                        clear hsl
                        rcases HOW.out.2 with ⟨hvd, hd0⟩ | ⟨gd, cd, cur, hvd, hgd, hh, hdc, -⟩
                        · subst hvd
                          have HRZ := Lib.hid (World.ownsRow_nil wy (b + 1) 5 1)
                          go_upto_region 66 with fail
                          go_region_law (first | (refine step_append_lies _ rfl (.tmp 214) (.tmp 218) 22 rfl (b + 1) 5 i0 (.int .u8 0) 1 1 Tryd.underlying22 hi hz0 hz1 hz2 rfl (by decide) (.slice none 0 0) 0 [] (by rfl) HRZ.out ⟨g, o + (p2 + 1), none⟩ x (c - (p2 + 1)) (u8s ((l.drop (p2 + 1)).take x)) (by rfl) HNL.out HNW.out (u8s_one _) hx0 HB63.out HB47.out hb64 _ rfl ?_; intro gg cap w5 hown5 hg5 hat5 hlt5; have HO5 := Lib.hid hown5; have HG5 := Lib.hid hg5; have k1 : w5.cell? ⟨b, 1, none⟩ = some (.slice none 0 0) := (HD.out.drew.data_far hT HG5.out).cell 1; have k2 : w5.frozen? ⟨b, 1, none⟩ = false := (HD.out.drew.data_far hT HG5.out).frozen 1; clear hown5 hg5 hat5 hlt5) | fail)
                          go_wp2
                          refine Handed.intro (gk - 1) (by have := hne; omega) (hJ _ _ _ ?_)
                          exact ⟨p2 + 1 + x, _, hv, vt, _, vz, vb, vh, vf, ⟨rfl, rfl, rfl, rfl, rfl, rfl, rfl⟩, hx, HK2', (HD.out.drew.setData hT (d := (l.drop (p2 + 1)).take x) (n := x) (by have h := HO5.out; rw [List.nil_append, Nat.zero_add] at h; exact h) hlv.out.symm HG5.out), HKn2, ((below_drewN HB.out 1).grown HG5.out (Nat.le_of_lt hb64) (fun k e => Nat.le_of_lt (own_base HOW.out k e))).setCell (Nat.le_refl b) _, HM2, HV.out, Nat.le_trans HSZ.out (by have := HPP.out; have := HPP2.out; omega)⟩
                        · subst hvd
                          have HRZ := Lib.hid (reslice_zero HOW.out)
                          have hgb2 : gd < wy.heap.size := Blk.lt hh
                          clear hh
                          go_upto_region 66 with fail
                          go_region_law (first | (refine step_append_lies _ rfl (.tmp 214) (.tmp 218) 22 rfl (b + 1) 5 i0 (.int .u8 0) 1 1 Tryd.underlying22 hi hz0 hz1 hz2 rfl (by decide) (.slice (some ⟨gd, 0, none⟩) 0 cd) 0 [] (by rfl) HRZ.out ⟨g, o + (p2 + 1), none⟩ x (c - (p2 + 1)) (u8s ((l.drop (p2 + 1)).take x)) (by rfl) HNL.out HNW.out (u8s_one _) hx0 HB63.out HB47.out hb64 _ rfl ?_; intro gg cap w5 hown5 hg5 hat5 hlt5; have HO5 := Lib.hid hown5; have HG5 := Lib.hid hg5; have k1 : w5.cell? ⟨b, 1, none⟩ = some (.slice (some ⟨gd, 0, none⟩) st.data.length cd) := (HD.out.drew.data_far hT HG5.out).cell 1; have k2 : w5.frozen? ⟨b, 1, none⟩ = false := (HD.out.drew.data_far hT HG5.out).frozen 1; clear hown5 hg5 hat5 hlt5) | fail)
                          go_wp2
                          refine Handed.intro (gk - 1) (by have := hne; omega) (hJ _ _ _ ?_)
                          exact ⟨p2 + 1 + x, _, hv, vt, _, vz, vb, vh, vf, ⟨rfl, rfl, rfl, rfl, rfl, rfl, rfl⟩, hx, HK2', (HD.out.drew.setData hT (d := (l.drop (p2 + 1)).take x) (n := x) (by have h := HO5.out; rw [List.nil_append, Nat.zero_add] at h; exact h) hlv.out.symm HG5.out), HKn2, ((below_drewN HB.out 1).grown HG5.out (Nat.le_of_lt hb64) (fun k e => Nat.le_of_lt (own_base HOW.out k e))).setCell (Nat.le_refl b) _, HM2, HV.out, Nat.le_trans HSZ.out (by have := HPP.out; have := HPP2.out; omega)⟩
                      · have HX0 := Lib.hid (Nat.eq_zero_of_not_pos hx0)
                        clear hx0
                        by_cases hcp : c = p2 + 1
                        · have hcpT := eq_true hcp
                          clear hcp
                          rcases HOW.out.2 with ⟨hvd, hd0⟩ | ⟨gd, cd, cur, hvd, hgd, hh, hdc, -⟩
                          · subst hvd
                            have HRZ := Lib.hid (World.ownsRow_nil wy (b + 1) 5 1)
                            go_upto_region 66 with fail
                            go_region_law (first | (refine step_append_zero rfl (.tmp 214) (.tmp 218) 22 rfl 5 i0 Tryd.underlying22 hi (none) _ 0 0 _ _ (Nat.zero_le _) (by rfl) (by rfl) HX0.out ?_) | fail)
                            go_wp2
                            refine Handed.intro (gk - 1) (by have := hne; omega) (hJ _ _ _ ?_)
                            exact ⟨p2 + 1 + x, _, hv, vt, _, vz, vb, vh, vf, ⟨rfl, rfl, rfl, rfl, rfl, rfl, rfl⟩, hx, HK2', HD.out.emptyData hT (zero_data HX0.out), HKn2, below_drewN (((HB.out.setCell (Nat.le_refl b) _).setCell (Nat.le_refl b) _).alloc (by simp [World.setCell]; exact Nat.le_of_lt hb64) _) 1, HM2, HV.out, Nat.le_trans HSZ.out (by have := HPP.out; have := HPP2.out; omega)⟩
                          · subst hvd
                            have HRZ := Lib.hid (reslice_zero HOW.out)
                            have hgb2 : gd < wy.heap.size := Blk.lt hh
                            clear hh
                            go_upto_region 66 with fail
                            go_region_law (first | (refine step_append_zero rfl (.tmp 214) (.tmp 218) 22 rfl 5 i0 Tryd.underlying22 hi (some ⟨gd, 0, none⟩) _ 0 cd _ _ (Nat.zero_le _) (by rfl) (by rfl) HX0.out ?_) | fail)
                            go_wp2
                            refine Handed.intro (gk - 1) (by have := hne; omega) (hJ _ _ _ ?_)
                            exact ⟨p2 + 1 + x, _, hv, vt, _, vz, vb, vh, vf, ⟨rfl, rfl, rfl, rfl, rfl, rfl, rfl⟩, hx, HK2', (HD.out.drew.setData hT (by rw [zero_data HX0.out]; exact HRZ.out) (by rw [zero_data HX0.out]; rfl) (World.grownBy.refl _ _)), HKn2, (below_drewN HB.out 1).setCell (Nat.le_refl b) _, HM2, HV.out, Nat.le_trans HSZ.out (by have := HPP.out; have := HPP2.out; omega)⟩
                        · skip
                          rcases HOW.out.2 with ⟨hvd, hd0⟩ | ⟨gd, cd, cur, hvd, hgd, hh, hdc, -⟩
                          · subst hvd
                            have HRZ := Lib.hid (World.ownsRow_nil wy (b + 1) 5 1)
                            go_upto_region 66 with fail
                            go_region_law (first | (refine step_append_zero rfl (.tmp 214) (.tmp 218) 22 rfl 5 i0 Tryd.underlying22 hi (none) _ 0 0 _ _ (Nat.zero_le _) (by rfl) (by rfl) HX0.out ?_) | fail)
                            go_wp2
                            refine Handed.intro (gk - 1) (by have := hne; omega) (hJ _ _ _ ?_)
                            exact ⟨p2 + 1 + x, _, hv, vt, _, vz, vb, vh, vf, ⟨rfl, rfl, rfl, rfl, rfl, rfl, rfl⟩, hx, HK2', HD.out.emptyData hT (zero_data HX0.out), HKn2, below_drewN (((HB.out.setCell (Nat.le_refl b) _).setCell (Nat.le_refl b) _).alloc (by simp [World.setCell]; exact Nat.le_of_lt hb64) _) 1, HM2, HV.out, Nat.le_trans HSZ.out (by have := HPP.out; have := HPP2.out; omega)⟩
                          · subst hvd
                            have HRZ := Lib.hid (reslice_zero HOW.out)
                            have hgb2 : gd < wy.heap.size := Blk.lt hh
                            clear hh
                            go_upto_region 66 with fail
                            go_region_law (first | (refine step_append_zero rfl (.tmp 214) (.tmp 218) 22 rfl 5 i0 Tryd.underlying22 hi (some ⟨gd, 0, none⟩) _ 0 cd _ _ (Nat.zero_le _) (by rfl) (by rfl) HX0.out ?_) | fail)
                            go_wp2
                            refine Handed.intro (gk - 1) (by have := hne; omega) (hJ _ _ _ ?_)
                            exact ⟨p2 + 1 + x, _, hv, vt, _, vz, vb, vh, vf, ⟨rfl, rfl, rfl, rfl, rfl, rfl, rfl⟩, hx, HK2', (HD.out.drew.setData hT (by rw [zero_data HX0.out]; exact HRZ.out) (by rw [zero_data HX0.out]; rfl) (World.grownBy.refl _ _)), HKn2, (below_drewN HB.out 1).setCell (Nat.le_refl b) _, HM2, HV.out, Nat.le_trans HSZ.out (by have := HPP.out; have := HPP2.out; omega)⟩
                    · have HRN := Lib.hid (bytes_long HM.out HK.out HVI.out HPP.out HPP2.out HV2.out rfl HLN.out hx)
                      by_cases hbig : p2 + 1 + x < 9223372036854775808
                      · have hwr := post_small hbig
                        have hgt := gt_of hx
                        generalize p2 + 1 + x = pe at *
                        go_wp2
                        go_ret
                        exact UmIs.err HB.out HRN.out
                      · obtain ⟨z, hwr, hz⟩ := post_big hbig (Nat.lt_of_not_le hpe) hn2 HX2.out
                        go_wp2
                        go_ret
                        exact UmIs.err HB.out HRN.out
                  · have hnx := hg2.out.next hm1 hs
                    have e1 := low7b m2.toNat hm3
                    have hnl := hnx.low
                    have hnj := hnx.lt
                    have h64 : acc2 + m2.toNat % 128 * 2 ^ (7 * j2) < 9223372036854775808 := Nat.lt_of_lt_of_le hnl (Nat.le_trans (Nat.pow_le_pow_right (by omega) (show 7 * (j2 + 1) ≤ 63 by omega)) (by decide))
                    have e2 := or64 (7 * j2) acc2 (m2.toNat % 128) hlow2 (by omega)
                    have hq : m2.toNat % 128 < 128 := by omega
                    have HNX := Lib.hid hnx
                    clear hm1 hnx hnl h64 hRx hlow2
                    generalize m2.toNat % 128 = qq at *
                    generalize m2.toNat = mm2 at *
                    generalize acc2 + qq * 2 ^ (7 * j2) = v at *
                    go_wp2
                    refine Handed.intro (wk3 - 1) (by have := HK3.out; omega) (hJ3 _ _ _ ?_)
                    exact ⟨j2 + 1, v, rfl, ⟨rfl, rfl, rfl, rfl, rfl, rfl, (show Value.int .i64 ((p2 : Int) + 1) = _ from congrArg (Value.int .i64) (by have := HPP2.out; omega))⟩, rfl, (show Value.int .u64 (7 * (j2 : Int) + 7) = _ from congrArg (Value.int .u64) (by omega)), by have := HK3.out; show _ = _; omega, HNX.out⟩
            · have ek : bits .and .u64 24 7 = 0 := low3 24 (by omega)
              go_wp2_with fail
              refine wp_loop_ghost_k (fun k a wy => ∃ j2 acc2 : Nat, wy = wx.alloc (.cells #[.int .u64 (acc2 : Nat)] 25) ∧ Fr a b w.heap.size n (.slice (some ⟨g, o, none⟩) n c) (p + 1 + j2) ∧ a.tmps.getD 21 undef = .pointer (some ⟨wx.heap.size, 0, none⟩) ∧ a.tmps.getD 22 undef = .int .u64 ((7 * j2 : Nat) : Int) ∧ Hid (k + j2 = 9) ∧ Hid (Part (l.drop (p + 1)) j2 acc2)) 9 ?start24 ?round24
              case start24 => exact ⟨0, 0, rfl, ⟨rfl, rfl, rfl, rfl, rfl, rfl, rfl⟩, rfl, rfl, rfl, Part.start (runOk_drop HRUN.out (p + 1))⟩
              case round24 =>
                intro wk3 a wy hI J3 K3 hJ3 hK3
                obtain ⟨j2, acc2, rfl, hfr, h9, h10, HK3, hg2⟩ := hI
                obtain ⟨p2, hp⟩ : ∃ p2, p + 1 + j2 = p2 := ⟨_, rfl⟩
                rw [hp] at hfr
                have HPP2 := Lib.hid hp
                obtain ⟨u3, rfl⟩ := hfr.open_
                replace h9 : u3 21 = _ := h9
                replace h10 : u3 22 = _ := h10
                rw [h9, h10]
                clear hfr h9 h10 hp
                have hj8 := hg2.out.lt
                have hlow2 := hg2.out.low
                have hRx := HR.out.below (HB.out)
                by_cases hpe : n ≤ p2
                · have HRN : Hid (R = none) := HM.out.symm.trans (ms_torn (torn2 HVI.out HPP.out (hg2.out.torn (by rw [List.length_drop, HLN.out]; have := HPP2.out; omega))) (by have := HXL.out; omega) HK.out)
                  clear hRx hlow2
                  go_wp2
                  go_ret
                  exact UmIs.err ((HB.out).alloc (Nat.le_of_lt hb64) _) HRN.out
                · obtain ⟨m2, hm1, hm2, hm3⟩ := byte_in hRx HPP2.out (by omega)
                  by_cases hs : m2.toNat < 128
                  · obtain ⟨h1, h2⟩ := hg2.out.last hm1 hs
                    have e1 := low7b m2.toNat hm3
                    rw [Nat.mod_eq_of_lt hs] at e1
                    have e2 := or_join (7 * j2) acc2 m2.toNat hlow2 (by omega)
                    have HV2 := Lib.hid h1
                    have HX2 := Lib.hid h2
                    clear hm1 h1 h2 hRx hlow2
                    generalize m2.toNat = mm2 at *
                    generalize acc2 + mm2 * 2 ^ (7 * j2) = x at *
                    have HNE := num_end HM.out HK.out HVI.out HPP.out HPP2.out HV2.out rfl HKS.out (st' := { st with fsize := x }) rfl
                    obtain ⟨hne, HM2, HKn2, HK2'⟩ := HNE
                    replace HM2 := Lib.hid HM2
                    replace HKn2 := Lib.hid HKn2
                    replace HK2' := Lib.hid HK2'
                    go_wp2
                    refine Handed.intro (gk - 1) (by have := hne; omega) (hJ _ _ _ ?_)
                    rw [ptr_world hb64]
                    exact ⟨p2 + 1, _, hv, vt, vd, _, vb, vh, vf, ⟨rfl, rfl, rfl, rfl, rfl, rfl, (show Value.int .i64 ((p2 : Int) + 1) = _ from congrArg (Value.int .i64) (by omega))⟩, by omega, HK2', (HD.out.alloc _).setFsize (Blk.new _ _ _) hb64 (fresh_ne HD.out.sizes), HKn2, (HB.out.alloc (Nat.le_of_lt hb64) _).setCell (Nat.le_refl b) _, HM2, HV.out, Nat.le_trans HSZ.out (by have := HPP.out; have := HPP2.out; omega)⟩
                  · have hnx := hg2.out.next hm1 hs
                    have e1 := low7b m2.toNat hm3
                    have hnl := hnx.low
                    have hnj := hnx.lt
                    have h64 : acc2 + m2.toNat % 128 * 2 ^ (7 * j2) < 9223372036854775808 := Nat.lt_of_lt_of_le hnl (Nat.le_trans (Nat.pow_le_pow_right (by omega) (show 7 * (j2 + 1) ≤ 63 by omega)) (by decide))
                    have e2 := or_join (7 * j2) acc2 (m2.toNat % 128) hlow2 (by omega)
                    have hq : m2.toNat % 128 < 128 := by omega
                    have HNX := Lib.hid hnx
                    clear hm1 hnx hnl h64 hRx hlow2
                    generalize m2.toNat % 128 = qq at *
                    generalize m2.toNat = mm2 at *
                    generalize acc2 + qq * 2 ^ (7 * j2) = v at *
                    go_wp2
                    refine Handed.intro (wk3 - 1) (by have := HK3.out; omega) (hJ3 _ _ _ ?_)
                    exact ⟨j2 + 1, v, rfl, ⟨rfl, rfl, rfl, rfl, rfl, rfl, (show Value.int .i64 ((p2 : Int) + 1) = _ from congrArg (Value.int .i64) (by have := HPP2.out; omega))⟩, rfl, (show Value.int .u64 (7 * (j2 : Int) + 7) = _ from congrArg (Value.int .u64) (by omega)), by have := HK3.out; show _ = _; omega, HNX.out⟩
            · have ek : bits .and .u64 32 7 = 0 := low3 32 (by omega)
              go_wp2_with fail
              refine wp_loop_ghost_k (fun k a wy => ∃ j2 acc2 : Nat, wy = wx ∧ Fr a b w.heap.size n (.slice (some ⟨g, o, none⟩) n c) (p + 1 + j2) ∧ a.tmps.getD 24 undef = .int .u64 (acc2 : Int) ∧ a.tmps.getD 25 undef = .int .u64 ((7 * j2 : Nat) : Int) ∧ Hid (k + j2 = 9) ∧ Hid (Part (l.drop (p + 1)) j2 acc2)) 9 ?start32 ?round32
              case start32 => exact ⟨0, 0, rfl, ⟨rfl, rfl, rfl, rfl, rfl, rfl, rfl⟩, rfl, rfl, rfl, Part.start (runOk_drop HRUN.out (p + 1))⟩
              case round32 =>
                intro wk3 a wy hI J3 K3 hJ3 hK3
                obtain ⟨j2, acc2, rfl, hfr, h9, h10, HK3, hg2⟩ := hI
                obtain ⟨p2, hp⟩ : ∃ p2, p + 1 + j2 = p2 := ⟨_, rfl⟩
                rw [hp] at hfr
                have HPP2 := Lib.hid hp
                obtain ⟨u3, rfl⟩ := hfr.open_
                replace h9 : u3 24 = _ := h9
                replace h10 : u3 25 = _ := h10
                rw [h9, h10]
                clear hfr h9 h10 hp
                have hj8 := hg2.out.lt
                have hlow2 := hg2.out.low
                have hRx := HR.out.below (HB.out)
                by_cases hpe : n ≤ p2
                · have HRN : Hid (R = none) := HM.out.symm.trans (ms_torn (torn2 HVI.out HPP.out (hg2.out.torn (by rw [List.length_drop, HLN.out]; have := HPP2.out; omega))) (by have := HXL.out; omega) HK.out)
                  clear hRx hlow2
                  go_wp2
                  go_ret
                  exact UmIs.err (HB.out) HRN.out
                · obtain ⟨m2, hm1, hm2, hm3⟩ := byte_in hRx HPP2.out (by omega)
                  by_cases hs : m2.toNat < 128
                  · obtain ⟨h1, h2⟩ := hg2.out.last hm1 hs
                    have e1 := low7b m2.toNat hm3
                    rw [Nat.mod_eq_of_lt hs] at e1
                    have e2 := or_join (7 * j2) acc2 m2.toNat hlow2 (by omega)
                    have HV2 := Lib.hid h1
                    have HX2 := Lib.hid h2
                    clear hm1 h1 h2 hRx hlow2
                    generalize m2.toNat = mm2 at *
                    generalize acc2 + mm2 * 2 ^ (7 * j2) = x at *
                    have HNE := num_end HM.out HK.out HVI.out HPP.out HPP2.out HV2.out rfl HKS.out (st' := { st with sizes := st.sizes ++ [x] }) rfl
                    obtain ⟨hne, HM2, HKn2, HK2'⟩ := HNE
                    replace HM2 := Lib.hid HM2
                    replace HKn2 := Lib.hid HKn2
                    replace HK2' := Lib.hid HK2'
                    obtain ⟨i0, hi, hz0, hz1, hz2⟩ := info_parts infoU64
                    have HB63 := Lib.hid (sz_max HSZ.out hlt hn2)
                    have HB47 := Lib.hid (sz_47 HSZ.out hlt hn2)
                    have HOW := Lib.hid HD.out.sizes
                    obtain ⟨Ab, cb, hvb, -, -⟩ := own_shape HOW.out
                    subst hvb
                    go_wp2_with (first | (at_builtin; refine wpList_append_one rfl (.tmp 301) (.tmp 303) 30 rfl (b + 1) i0 (.int .u64 0) 8 Tryd.underlying30 hi hz0 hz1 hz2 rfl _ _ _ rfl HOW.out rfl rfl HB63.out HB47.out hb64 ?_; rintro v2 w2 hown2 hg2 hat2 -; obtain ⟨A9, c9, rfl, -, -⟩ := own_shape hown2; have HO2 := Lib.hid hown2; have HG2 := Lib.hid hg2; have HAT2 := Lib.hid hat2; have k1 : w2.cell? ⟨b, 3, none⟩ = some (.slice Ab st.sizes.length cb) := (HD.out.sizes_far hT HG2.out).cell 3; have k2 : w2.frozen? ⟨b, 3, none⟩ = false := (HD.out.sizes_far hT HG2.out).frozen 3; clear hown2 hg2 hat2) | fail)
                    refine Handed.intro (gk - 1) (by have := hne; omega) (hJ _ _ _ ?_)
                    exact ⟨p2 + 1, _, hv, vt, vd, vz, _, vh, vf, ⟨rfl, rfl, rfl, rfl, rfl, rfl, (show Value.int .i64 ((p2 : Int) + 1) = _ from congrArg (Value.int .i64) (by omega))⟩, by omega, HK2', HD.out.setSizes hT (d := st.sizes ++ [x]) (n := st.sizes.length + 1) (by rw [← u64s_snoc]; exact HO2.out) (by simp) HG2.out HAT2.out, HKn2, (HB.out.grown HG2.out (Nat.le_of_lt hb64) (fun k e => Nat.le_of_lt (own_base HOW.out k e))).setCell (Nat.le_refl b) _, HM2, HV.out, by have h1 := HSZ.out; have := HPP.out; have := HPP2.out; show (st.sizes ++ [x]).length ≤ _; simp; omega⟩
                  · have hnx := hg2.out.next hm1 hs
                    have e1 := low7b m2.toNat hm3
                    have hnl := hnx.low
                    have hnj := hnx.lt
                    have h64 : acc2 + m2.toNat % 128 * 2 ^ (7 * j2) < 9223372036854775808 := Nat.lt_of_lt_of_le hnl (Nat.le_trans (Nat.pow_le_pow_right (by omega) (show 7 * (j2 + 1) ≤ 63 by omega)) (by decide))
                    have e2 := or_join (7 * j2) acc2 (m2.toNat % 128) hlow2 (by omega)
                    have hq : m2.toNat % 128 < 128 := by omega
                    have HNX := Lib.hid hnx
                    clear hm1 hnx hnl h64 hRx hlow2
                    generalize m2.toNat % 128 = qq at *
                    generalize m2.toNat = mm2 at *
                    generalize acc2 + qq * 2 ^ (7 * j2) = v at *
                    go_wp2
                    refine Handed.intro (wk3 - 1) (by have := HK3.out; omega) (hJ3 _ _ _ ?_)
                    exact ⟨j2 + 1, v, rfl, ⟨rfl, rfl, rfl, rfl, rfl, rfl, (show Value.int .i64 ((p2 : Int) + 1) = _ from congrArg (Value.int .i64) (by have := HPP2.out; omega))⟩, rfl, (show Value.int .u64 (7 * (j2 : Int) + 7) = _ from congrArg (Value.int .u64) (by omega)), by have := HK3.out; show _ = _; omega, HNX.out⟩
            · have ek : bits .and .u64 34 7 = 2 := low3 34 (by omega)
              go_wp2_with fail
              refine wp_loop_ghost_k (fun k a wy => ∃ j2 acc2 : Nat, wy = wx ∧ Fr a b w.heap.size n (.slice (some ⟨g, o, none⟩) n c) (p + 1 + j2) ∧ a.tmps.getD 27 undef = .int .i64 (acc2 : Int) ∧ a.tmps.getD 28 undef = .int .u64 ((7 * j2 : Nat) : Int) ∧ Hid (k + j2 = 9) ∧ Hid (Part (l.drop (p + 1)) j2 acc2)) 9 ?start34 ?round34
              case start34 => exact ⟨0, 0, rfl, ⟨rfl, rfl, rfl, rfl, rfl, rfl, rfl⟩, rfl, rfl, rfl, Part.start (runOk_drop HRUN.out (p + 1))⟩
              case round34 =>
                intro wk3 a wy hI J3 K3 hJ3 hK3
                obtain ⟨j2, acc2, rfl, hfr, h9, h10, HK3, hg2⟩ := hI
                obtain ⟨p2, hp⟩ : ∃ p2, p + 1 + j2 = p2 := ⟨_, rfl⟩
                rw [hp] at hfr
                have HPP2 := Lib.hid hp
                obtain ⟨u3, rfl⟩ := hfr.open_
                replace h9 : u3 27 = _ := h9
                replace h10 : u3 28 = _ := h10
                rw [h9, h10]
                clear hfr h9 h10 hp
                have hj8 := hg2.out.lt
                have hlow2 := hg2.out.low
                have hRx := HR.out.below (HB.out)
                by_cases hpe : n ≤ p2
                · have HRN : Hid (R = none) := HM.out.symm.trans (ms_torn (torn2 HVI.out HPP.out (hg2.out.torn (by rw [List.length_drop, HLN.out]; have := HPP2.out; omega))) (by have := HXL.out; omega) HK.out)
                  clear hRx hlow2
                  go_wp2
                  go_ret
                  exact UmIs.err (HB.out) HRN.out
                · obtain ⟨m2, hm1, hm2, hm3⟩ := byte_in hRx HPP2.out (by omega)
                  by_cases hs : m2.toNat < 128
                  · obtain ⟨h1, h2⟩ := hg2.out.last hm1 hs
                    have e1 := low7b m2.toNat hm3
                    rw [Nat.mod_eq_of_lt hs] at e1
                    have e2 := or64 (7 * j2) acc2 m2.toNat hlow2 (by omega)
                    have HV2 := Lib.hid h1
                    have HX2 := Lib.hid h2
                    clear hm1 h1 h2 hRx hlow2
                    generalize m2.toNat = mm2 at *
                    generalize acc2 + mm2 * 2 ^ (7 * j2) = x at *
                    by_cases hx : p2 + 1 + x ≤ n
                    · have hxn : x ≤ n := Nat.le_trans (Nat.le_add_left _ _) hx
                      obtain ⟨P, hP⟩ : ∃ P, pk ((l.drop (p2 + 1)).take x).length ((l.drop (p2 + 1)).take x) = P := ⟨_, rfl⟩
                      have hpk := Pk.start (l := l) (s := p2 + 1) (x := x) (by rw [HLN.out]; exact hx)
                      rw [hP] at hpk
                      have HPK := Lib.hid hpk
                      have HBAD : Hid (P = none → R = none) := fun e => bytes_bad HM.out HK.out HVI.out HPP.out HPP2.out HV2.out rfl HLN.out hx (up_pk_none (hP.trans e))
                      have HEND : Hid (∀ ds, P = some ds → 0 < gk ∧ ms (gk - 1) { st with sizes := st.sizes ++ ds } (l.drop (p2 + 1 + x)) = R ∧ Kn (l.drop (p2 + 1 + x)) ∧ (l.drop (p2 + 1 + x)).length ≤ gk - 1) := fun ds e => bytes_end HM.out HK.out HVI.out HPP.out HPP2.out HV2.out rfl HLN.out hx HKS.out (up_pk (hP.trans e))
                      have hpn : p2 + 1 ≤ n := Nat.succ_le_of_lt (Nat.lt_of_not_le hpe)
                      have HII : Hid (i ≤ p2 + 1) := by have := HPP.out; have := HPP2.out; show _ ≤ _; omega
                      have HXN := Lib.hid hx
                      clear hP hpk
                      go_wp2_with fail
                      refine wp_loop_ghost_k (fun k a wz => ∃ q : Nat, Fr a b w.heap.size n (.slice (some ⟨g, o, none⟩) n c) q ∧ a.tmps.getD 30 undef = .int .i64 ((p2 : Int) + 1 + x) ∧ q ≤ n ∧ Hid (p2 + 1 + x ≤ q + k) ∧ Hid (Below b w wz) ∧ Hid ((q ≤ p2 + 1 + x ∧ ∃ ds f vb', Pk l (p2 + 1) x q f ds P ∧ DRep wz T b w.heap.size hv { st with sizes := st.sizes ++ ds } vt vd vz vb' vh vf ∧ (st.sizes ++ ds).length ≤ q) ∨ (p2 + 1 + x < q ∧ P = none))) x ?pstart34 ?pround34
                      case pstart34 => exact ⟨p2 + 1, ⟨rfl, rfl, rfl, rfl, rfl, rfl, rfl⟩, rfl, hpn, Nat.le_refl _, HB.out, .inl ⟨Nat.le_add_right _ _, [], x, vb, HPK.out, by rw [List.append_nil]; exact HD.out, by rw [List.append_nil]; exact Nat.le_trans HSZ.out HII.out⟩⟩
                      case pround34 =>
                        intro gp a wz hI J4 K4 hJ4 hK4
                        obtain ⟨q, hfr, h30, hqn, HQK, HBz, HDz⟩ := hI
                        obtain ⟨u4, rfl⟩ := hfr.open_
                        replace h30 : u4 30 = _ := h30
                        rw [h30]
                        clear hfr h30
                        have hEz := HE.out.below HBz.out h5
                        have g0z := hEz.e0
                        have g1z := hEz.e1
                        have g2z := hEz.e2
                        have g5z := hEz.lt
                        have gx1z : 1 < wz.heap.size := by omega
                        clear hEz
                        by_cases hqe : p2 + 1 + x ≤ q
                        · have hge := not_lt_of hqe
                          rcases HDz.out with ⟨h1, ds, f, vb2, h2, h3, h4⟩ | ⟨h1, h2⟩
                          · obtain rfl : q = p2 + 1 + x := Nat.le_antisymm h1 hqe
                            have HF := Lib.hid (HEND.out ds (h2.done rfl))
                            have H3 := Lib.hid h3
                            have H4 := Lib.hid h4
                            have hng := not_gt_cast (p := p2) (x := x)
                            clear h1 h2 h3 h4 HDz hqe
                            go_wp2
                            refine Handed.intro (gk - 1) (by have := HF.out.1; omega) (hJ _ _ _ ?_)
                            exact ⟨p2 + 1 + x, _, hv, vt, vd, vz, vb2, vh, vf, ⟨rfl, rfl, rfl, rfl, rfl, rfl, rfl⟩, HXN.out, HF.out.2.2.2, H3.out, HF.out.2.2.1, HBz.out, HF.out.2.1, HV.out, H4.out⟩
                          · have hgt := gt_cast h1
                            have HRN := Lib.hid (HBAD.out h2)
                            clear h1 h2 HDz hqe
                            go_wp2
                            go_ret
                            exact UmIs.err HBz.out HRN.out
                        · have hlq := lt_of_not hqe
                          have HQE := Lib.hid (Nat.lt_of_not_le hqe)
                          obtain ⟨-, ds, f, vb2, hpkz, hdz, hsz⟩ | ⟨h1, -⟩ := HDz.out
                          rotate_left
                          · exact absurd (Nat.le_of_lt h1) hqe
                          have HPKz := Lib.hid hpkz
                          have HDq := Lib.hid hdz
                          obtain ⟨sl, hsl⟩ : ∃ sl, (st.sizes ++ ds).length = sl := ⟨_, rfl⟩
                          have HOW : Hid (wz.ownsRow (b + 1) 25 1 vb2 (st.sizes ++ ds).length (u64s (st.sizes ++ ds))) := hdz.sizes
                          rw [hsl] at HOW hsz
                          have HSL := Lib.hid hsl
                          have HSq := Lib.hid hsz
                          clear hsl
                          obtain ⟨Ab, cb, hvb, -, -⟩ := own_shape HOW.out
                          subst hvb
                          have hbz := HDq.out.blk.lt
                          have hgz : g < wz.heap.size := Nat.lt_trans hgb hbz
                          have cz3 := HDq.out.blk.cell 3
                          have fz := HDq.out.blk.frozen
                          obtain ⟨i0, hi, hz0, hz1, hz2⟩ := info_parts infoU64
                          have hqlt : q < n := Nat.lt_of_lt_of_le HQE.out HXN.out
                          have HB63 := Lib.hid (sz_max HSq.out hqlt hn2)
                          have HB47 := Lib.hid (sz_47 HSq.out hqlt hn2)
                          clear hpkz hdz hsz HDz hqe hx
                          go_wp2_with fail
                          refine wp_loop_ghost_k (fun k a wy => ∃ j3 acc3 : Nat, wy = wz ∧ Fr a b w.heap.size n (.slice (some ⟨g, o, none⟩) n c) (q + j3) ∧ a.tmps.getD 31 undef = .int .u64 (acc3 : Int) ∧ a.tmps.getD 32 undef = .int .u64 ((7 * j3 : Nat) : Int) ∧ a.tmps.getD 30 undef = .int .i64 ((p2 : Int) + 1 + x) ∧ Hid (k + j3 = 9) ∧ Hid (Part (l.drop (q)) j3 acc3)) 9 ?start34i ?round34i
                          case start34i => exact ⟨0, 0, rfl, ⟨rfl, rfl, rfl, rfl, rfl, rfl, rfl⟩, rfl, rfl, rfl, rfl, Part.start (runOk_drop HRUN.out (q))⟩
                          case round34i =>
                            intro wk5 a wy hI J5 K5 hJ5 hK5
                            obtain ⟨j3, acc3, rfl, hfr, h9, h10, h30, HK5, hg3⟩ := hI
                            obtain ⟨p3, hp⟩ : ∃ p3, q + j3 = p3 := ⟨_, rfl⟩
                            rw [hp] at hfr
                            have HPP3 := Lib.hid hp
                            obtain ⟨u5, rfl⟩ := hfr.open_
                            replace h9 : u5 31 = _ := h9
                            replace h10 : u5 32 = _ := h10
                            replace h30 : u5 30 = _ := h30
                            rw [h9, h10, h30]
                            clear hfr h9 h10 hp h30
                            have hj8 := hg3.out.lt
                            have hlow2 := hg3.out.low
                            have hRx := HR.out.below (HBz.out)
                            by_cases hpe : n ≤ p3
                            · have HRN : Hid (R = none) := HBAD.out (HPKz.out.torn HQE.out (hg3.out.torn (by rw [List.length_drop, HLN.out]; have := HPP3.out; omega)))
                              clear hRx hlow2
                              go_wp2
                              go_ret
                              exact UmIs.err (HBz.out) HRN.out
                            · obtain ⟨m3, hm1, hm2, hm3⟩ := byte_in hRx HPP3.out (by omega)
                              by_cases hs : m3.toNat < 128
                              · obtain ⟨h1, h2⟩ := hg3.out.last hm1 hs
                                have e1 := low7b m3.toNat hm3
                                rw [Nat.mod_eq_of_lt hs] at e1
                                have e2 := or_join (7 * j3) acc3 m3.toNat hlow2 (by omega)
                                have HV3 := Lib.hid h1
                                have HX3 := Lib.hid h2
                                clear hm1 h1 h2 hRx hlow2
                                generalize m3.toNat = mm3 at *
                                generalize acc3 + mm3 * 2 ^ (7 * j3) = x3 at *
                                go_wp2_with (first | (at_builtin; refine wpList_append_one rfl (.tmp 382) (.tmp 384) 30 rfl (b + 1) i0 (.int .u64 0) 8 Tryd.underlying30 hi hz0 hz1 hz2 rfl _ _ _ rfl HOW.out rfl rfl HB63.out HB47.out hbz ?_; rintro v2 w2 hown2 hgr2 hat2 -; obtain ⟨A9, c9, rfl, -, -⟩ := own_shape hown2; have HO2 := Lib.hid hown2; have HG2 := Lib.hid hgr2; have HAT2 := Lib.hid hat2; have k1 : w2.cell? ⟨b, 3, none⟩ = some (.slice Ab sl cb) := (HDq.out.sizes_far hT HG2.out).cell 3; have k2 : w2.frozen? ⟨b, 3, none⟩ = false := (HDq.out.sizes_far hT HG2.out).frozen 3; clear hown2 hgr2 hat2) | fail)
                                have hq1 : q + (j3 + 1) = p3 + 1 := by have := HPP3.out; omega
                                refine Handed.intro (gp - 1) (by have := HQK.out; have := HQE.out; omega) (hJ4 _ _ _ ?_)
                                refine ⟨p3 + 1, ⟨rfl, rfl, rfl, rfl, rfl, rfl, rfl⟩, rfl, Nat.succ_le_of_lt (Nat.lt_of_not_le hpe), by have := HQK.out; have := HQE.out; show _ ≤ _; omega, (HBz.out.grown HG2.out (Nat.le_of_lt hbz) (fun k e => Nat.le_of_lt (own_base HOW.out k e))).setCell (Nat.le_refl b) _, ?_⟩
                                by_cases hov : p3 + 1 ≤ p2 + 1 + x
                                · have hnx := HPKz.out.next HV3.out (by rw [hq1]; exact hov)
                                  rw [hq1] at hnx
                                  refine .inl ⟨hov, ds ++ [x3], f - 1, _, hnx, HDq.out.setSizes hT (d := st.sizes ++ (ds ++ [x3])) (n := sl + 1) (by rw [← List.append_assoc, ← u64s_snoc]; exact HO2.out) (by rw [← List.append_assoc, List.length_append, HSL.out]; rfl) HG2.out HAT2.out, by rw [← List.append_assoc, List.length_append, HSL.out]; have := HSq.out; have := HPP3.out; show sl + 1 ≤ _; omega⟩
                                · exact .inr ⟨Nat.lt_of_not_le hov, HPKz.out.over HQE.out HV3.out (by rw [hq1]; exact Nat.lt_of_not_le hov)⟩
                              · have hnx := hg3.out.next hm1 hs
                                have e1 := low7b m3.toNat hm3
                                have hnl := hnx.low
                                have hnj := hnx.lt
                                have h64 : acc3 + m3.toNat % 128 * 2 ^ (7 * j3) < 9223372036854775808 := Nat.lt_of_lt_of_le hnl (Nat.le_trans (Nat.pow_le_pow_right (by omega) (show 7 * (j3 + 1) ≤ 63 by omega)) (by decide))
                                have e2 := or_join (7 * j3) acc3 (m3.toNat % 128) hlow2 (by omega)
                                have hq : m3.toNat % 128 < 128 := by omega
                                have HNX := Lib.hid hnx
                                clear hm1 hnx hnl h64 hRx hlow2
                                generalize m3.toNat % 128 = qq at *
                                generalize m3.toNat = mm3 at *
                                generalize acc3 + qq * 2 ^ (7 * j3) = v at *
                                go_wp2
                                refine Handed.intro (wk5 - 1) (by have := HK5.out; omega) (hJ5 _ _ _ ?_)
                                exact ⟨j3 + 1, v, rfl, ⟨rfl, rfl, rfl, rfl, rfl, rfl, (show Value.int .i64 ((p3 : Int) + 1) = _ from congrArg (Value.int .i64) (by have := HPP3.out; omega))⟩, rfl, (show Value.int .u64 (7 * (j3 : Int) + 7) = _ from congrArg (Value.int .u64) (by omega)), rfl, by have := HK5.out; show _ = _; omega, HNX.out⟩
                    · have HRN := Lib.hid (bytes_long HM.out HK.out HVI.out HPP.out HPP2.out HV2.out rfl HLN.out hx)
                      by_cases hbig : p2 + 1 + x < 9223372036854775808
                      · have hwr := post_small hbig
                        have hgt := gt_of hx
                        generalize p2 + 1 + x = pe at *
                        go_wp2
                        go_ret
                        exact UmIs.err HB.out HRN.out
                      · obtain ⟨z, hwr, hz⟩ := post_big hbig (Nat.lt_of_not_le hpe) hn2 HX2.out
                        go_wp2
                        go_ret
                        exact UmIs.err HB.out HRN.out
                  · have hnx := hg2.out.next hm1 hs
                    have e1 := low7b m2.toNat hm3
                    have hnl := hnx.low
                    have hnj := hnx.lt
                    have h64 : acc2 + m2.toNat % 128 * 2 ^ (7 * j2) < 9223372036854775808 := Nat.lt_of_lt_of_le hnl (Nat.le_trans (Nat.pow_le_pow_right (by omega) (show 7 * (j2 + 1) ≤ 63 by omega)) (by decide))
                    have e2 := or64 (7 * j2) acc2 (m2.toNat % 128) hlow2 (by omega)
                    have hq : m2.toNat % 128 < 128 := by omega
                    have HNX := Lib.hid hnx
                    clear hm1 hnx hnl h64 hRx hlow2
                    generalize m2.toNat % 128 = qq at *
                    generalize m2.toNat = mm2 at *
                    generalize acc2 + qq * 2 ^ (7 * j2) = v at *
                    go_wp2
                    refine Handed.intro (wk3 - 1) (by have := HK3.out; omega) (hJ3 _ _ _ ?_)
                    exact ⟨j2 + 1, v, rfl, ⟨rfl, rfl, rfl, rfl, rfl, rfl, (show Value.int .i64 ((p2 : Int) + 1) = _ from congrArg (Value.int .i64) (by have := HPP2.out; omega))⟩, rfl, (show Value.int .u64 (7 * (j2 : Int) + 7) = _ from congrArg (Value.int .u64) (by omega)), by have := HK3.out; show _ = _; omega, HNX.out⟩
            · have ek : bits .and .u64 40 7 = 0 := low3 40 (by omega)
              go_wp2_with fail
              refine wp_loop_ghost_k (fun k a wy => ∃ j2 acc2 : Nat, wy = wx.alloc (.cells #[.int .u64 (acc2 : Nat)] 25) ∧ Fr a b w.heap.size n (.slice (some ⟨g, o, none⟩) n c) (p + 1 + j2) ∧ a.tmps.getD 34 undef = .pointer (some ⟨wx.heap.size, 0, none⟩) ∧ a.tmps.getD 35 undef = .int .u64 ((7 * j2 : Nat) : Int) ∧ Hid (k + j2 = 9) ∧ Hid (Part (l.drop (p + 1)) j2 acc2)) 9 ?start40 ?round40
              case start40 => exact ⟨0, 0, rfl, ⟨rfl, rfl, rfl, rfl, rfl, rfl, rfl⟩, rfl, rfl, rfl, Part.start (runOk_drop HRUN.out (p + 1))⟩
              case round40 =>
                intro wk3 a wy hI J3 K3 hJ3 hK3
                obtain ⟨j2, acc2, rfl, hfr, h9, h10, HK3, hg2⟩ := hI
                obtain ⟨p2, hp⟩ : ∃ p2, p + 1 + j2 = p2 := ⟨_, rfl⟩
                rw [hp] at hfr
                have HPP2 := Lib.hid hp
                obtain ⟨u3, rfl⟩ := hfr.open_
                replace h9 : u3 34 = _ := h9
                replace h10 : u3 35 = _ := h10
                rw [h9, h10]
                clear hfr h9 h10 hp
                have hj8 := hg2.out.lt
                have hlow2 := hg2.out.low
                have hRx := HR.out.below (HB.out)
                by_cases hpe : n ≤ p2
                · have HRN : Hid (R = none) := HM.out.symm.trans (ms_torn (torn2 HVI.out HPP.out (hg2.out.torn (by rw [List.length_drop, HLN.out]; have := HPP2.out; omega))) (by have := HXL.out; omega) HK.out)
                  clear hRx hlow2
                  go_wp2
                  go_ret
                  exact UmIs.err ((HB.out).alloc (Nat.le_of_lt hb64) _) HRN.out
                · obtain ⟨m2, hm1, hm2, hm3⟩ := byte_in hRx HPP2.out (by omega)
                  by_cases hs : m2.toNat < 128
                  · obtain ⟨h1, h2⟩ := hg2.out.last hm1 hs
                    have e1 := low7b m2.toNat hm3
                    rw [Nat.mod_eq_of_lt hs] at e1
                    have e2 := or_join (7 * j2) acc2 m2.toNat hlow2 (by omega)
                    have HV2 := Lib.hid h1
                    have HX2 := Lib.hid h2
                    clear hm1 h1 h2 hRx hlow2
                    generalize m2.toNat = mm2 at *
                    generalize acc2 + mm2 * 2 ^ (7 * j2) = x at *
                    have HNE := num_end HM.out HK.out HVI.out HPP.out HPP2.out HV2.out rfl HKS.out (st' := { st with hash := x }) rfl
                    obtain ⟨hne, HM2, HKn2, HK2'⟩ := HNE
                    replace HM2 := Lib.hid HM2
                    replace HKn2 := Lib.hid HKn2
                    replace HK2' := Lib.hid HK2'
                    go_wp2
                    refine Handed.intro (gk - 1) (by have := hne; omega) (hJ _ _ _ ?_)
                    rw [ptr_world hb64]
                    exact ⟨p2 + 1, _, hv, vt, vd, vz, vb, _, vf, ⟨rfl, rfl, rfl, rfl, rfl, rfl, (show Value.int .i64 ((p2 : Int) + 1) = _ from congrArg (Value.int .i64) (by omega))⟩, by omega, HK2', (HD.out.alloc _).setHash (Blk.new _ _ _) hb64 (fresh_ne HD.out.sizes), HKn2, (HB.out.alloc (Nat.le_of_lt hb64) _).setCell (Nat.le_refl b) _, HM2, HV.out, Nat.le_trans HSZ.out (by have := HPP.out; have := HPP2.out; omega)⟩
                  · have hnx := hg2.out.next hm1 hs
                    have e1 := low7b m2.toNat hm3
                    have hnl := hnx.low
                    have hnj := hnx.lt
                    have h64 : acc2 + m2.toNat % 128 * 2 ^ (7 * j2) < 9223372036854775808 := Nat.lt_of_lt_of_le hnl (Nat.le_trans (Nat.pow_le_pow_right (by omega) (show 7 * (j2 + 1) ≤ 63 by omega)) (by decide))
                    have e2 := or_join (7 * j2) acc2 (m2.toNat % 128) hlow2 (by omega)
                    have hq : m2.toNat % 128 < 128 := by omega
                    have HNX := Lib.hid hnx
                    clear hm1 hnx hnl h64 hRx hlow2
                    generalize m2.toNat % 128 = qq at *
                    generalize m2.toNat = mm2 at *
                    generalize acc2 + qq * 2 ^ (7 * j2) = v at *
                    go_wp2
                    refine Handed.intro (wk3 - 1) (by have := HK3.out; omega) (hJ3 _ _ _ ?_)
                    exact ⟨j2 + 1, v, rfl, ⟨rfl, rfl, rfl, rfl, rfl, rfl, (show Value.int .i64 ((p2 : Int) + 1) = _ from congrArg (Value.int .i64) (by have := HPP2.out; omega))⟩, rfl, (show Value.int .u64 (7 * (j2 : Int) + 7) = _ from congrArg (Value.int .u64) (by omega)), by have := HK3.out; show _ = _; omega, HNX.out⟩
            · have ek : bits .and .u64 48 7 = 0 := low3 48 (by omega)
              go_wp2_with fail
              refine wp_loop_ghost_k (fun k a wy => ∃ j2 acc2 : Nat, wy = wx.alloc (.cells #[.int .u64 (acc2 : Nat)] 25) ∧ Fr a b w.heap.size n (.slice (some ⟨g, o, none⟩) n c) (p + 1 + j2) ∧ a.tmps.getD 37 undef = .pointer (some ⟨wx.heap.size, 0, none⟩) ∧ a.tmps.getD 38 undef = .int .u64 ((7 * j2 : Nat) : Int) ∧ Hid (k + j2 = 9) ∧ Hid (Part (l.drop (p + 1)) j2 acc2)) 9 ?start48 ?round48
              case start48 => exact ⟨0, 0, rfl, ⟨rfl, rfl, rfl, rfl, rfl, rfl, rfl⟩, rfl, rfl, rfl, Part.start (runOk_drop HRUN.out (p + 1))⟩
              case round48 =>
                intro wk3 a wy hI J3 K3 hJ3 hK3
                obtain ⟨j2, acc2, rfl, hfr, h9, h10, HK3, hg2⟩ := hI
                obtain ⟨p2, hp⟩ : ∃ p2, p + 1 + j2 = p2 := ⟨_, rfl⟩
                rw [hp] at hfr
                have HPP2 := Lib.hid hp
                obtain ⟨u3, rfl⟩ := hfr.open_
                replace h9 : u3 37 = _ := h9
                replace h10 : u3 38 = _ := h10
                rw [h9, h10]
                clear hfr h9 h10 hp
                have hj8 := hg2.out.lt
                have hlow2 := hg2.out.low
                have hRx := HR.out.below (HB.out)
                by_cases hpe : n ≤ p2
                · have HRN : Hid (R = none) := HM.out.symm.trans (ms_torn (torn2 HVI.out HPP.out (hg2.out.torn (by rw [List.length_drop, HLN.out]; have := HPP2.out; omega))) (by have := HXL.out; omega) HK.out)
                  clear hRx hlow2
                  go_wp2
                  go_ret
                  exact UmIs.err ((HB.out).alloc (Nat.le_of_lt hb64) _) HRN.out
                · obtain ⟨m2, hm1, hm2, hm3⟩ := byte_in hRx HPP2.out (by omega)
                  by_cases hs : m2.toNat < 128
                  · obtain ⟨h1, h2⟩ := hg2.out.last hm1 hs
                    have e1 := low7b m2.toNat hm3
                    rw [Nat.mod_eq_of_lt hs] at e1
                    have e2 := or_join (7 * j2) acc2 m2.toNat hlow2 (by omega)
                    have HV2 := Lib.hid h1
                    have HX2 := Lib.hid h2
                    clear hm1 h1 h2 hRx hlow2
                    generalize m2.toNat = mm2 at *
                    generalize acc2 + mm2 * 2 ^ (7 * j2) = x at *
                    have HNE := num_end HM.out HK.out HVI.out HPP.out HPP2.out HV2.out rfl HKS.out (st' := { st with fan := x }) rfl
                    obtain ⟨hne, HM2, HKn2, HK2'⟩ := HNE
                    replace HM2 := Lib.hid HM2
                    replace HKn2 := Lib.hid HKn2
                    replace HK2' := Lib.hid HK2'
                    go_wp2
                    refine Handed.intro (gk - 1) (by have := hne; omega) (hJ _ _ _ ?_)
                    rw [ptr_world hb64]
                    exact ⟨p2 + 1, _, hv, vt, vd, vz, vb, vh, _, ⟨rfl, rfl, rfl, rfl, rfl, rfl, (show Value.int .i64 ((p2 : Int) + 1) = _ from congrArg (Value.int .i64) (by omega))⟩, by omega, HK2', (HD.out.alloc _).setFan (Blk.new _ _ _) hb64 (fresh_ne HD.out.sizes), HKn2, (HB.out.alloc (Nat.le_of_lt hb64) _).setCell (Nat.le_refl b) _, HM2, HV.out, Nat.le_trans HSZ.out (by have := HPP.out; have := HPP2.out; omega)⟩
                  · have hnx := hg2.out.next hm1 hs
                    have e1 := low7b m2.toNat hm3
                    have hnl := hnx.low
                    have hnj := hnx.lt
                    have h64 : acc2 + m2.toNat % 128 * 2 ^ (7 * j2) < 9223372036854775808 := Nat.lt_of_lt_of_le hnl (Nat.le_trans (Nat.pow_le_pow_right (by omega) (show 7 * (j2 + 1) ≤ 63 by omega)) (by decide))
                    have e2 := or_join (7 * j2) acc2 (m2.toNat % 128) hlow2 (by omega)
                    have hq : m2.toNat % 128 < 128 := by omega
                    have HNX := Lib.hid hnx
                    clear hm1 hnx hnl h64 hRx hlow2
                    generalize m2.toNat % 128 = qq at *
                    generalize m2.toNat = mm2 at *
                    generalize acc2 + qq * 2 ^ (7 * j2) = v at *
                    go_wp2
                    refine Handed.intro (wk3 - 1) (by have := HK3.out; omega) (hJ3 _ _ _ ?_)
                    exact ⟨j2 + 1, v, rfl, ⟨rfl, rfl, rfl, rfl, rfl, rfl, (show Value.int .i64 ((p2 : Int) + 1) = _ from congrArg (Value.int .i64) (by have := HPP2.out; omega))⟩, rfl, (show Value.int .u64 (7 * (j2 : Int) + 7) = _ from congrArg (Value.int .u64) (by omega)), by have := HK3.out; show _ = _; omega, HNX.out⟩
          · have hnx := hg.out.next hm1 hs
            have e1 := low7b m.toNat hm3
            have hnl := hnx.low
            have hnj := hnx.lt
            have h64 : acc + m.toNat % 128 * 2 ^ (7 * j) < 18446744073709551616 := Nat.lt_of_lt_of_le hnl (Nat.le_trans (Nat.pow_le_pow_right (by omega) (show 7 * (j + 1) ≤ 63 by omega)) (by decide))
            have e2 := or_join (7 * j) acc (m.toNat % 128) hg.out.low h64
            have hq : m.toNat % 128 < 128 := by omega
            have HNX := Lib.hid hnx
            clear hm1 hnx hnl h64 hRx
            generalize m.toNat % 128 = q at *
            generalize m.toNat = mm at *
            generalize acc + q * 2 ^ (7 * j) = v at *
            go_wp2
            refine Handed.intro (wk - 1) (by have := HK2.out; omega) (hJ2 _ _ _ ?_)
            exact ⟨rfl, j + 1, v, ⟨rfl, rfl, rfl, rfl, rfl, rfl, by have := HPP.out; show Value.int .i64 _ = _; congr 1; omega⟩, rfl, (show Value.int .u64 (7 * (j : Int) + 7) = _ from congrArg (Value.int .u64) (by omega)), by have := HK2.out; show _ = _; omega, HNX.out⟩
end Go.Proofs.YtijbnmmeecmbjaaDoor
