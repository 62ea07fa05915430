/- Unmarshal of PBLink: known fields are read as the plain law says; a torn one, or one of the wrong kind, is an error. -/
import Derived.Test.YthgbhaackihbjaaDoorPnR
import Derived.Test.YthgbhaackihbjaaDoorUmB
import Derived.Test.YthgbhaackihbjaaDoorPbTk
namespace Go.Proofs.YthgbhaackihbjaaDoor
open Go.RowKit

set_option maxRecDepth 100000 in
set_option maxHeartbeats 40000000 in
theorem unmarshalL_any (b : Nat) (A : Option Addr) (n c : Nat) (l : List UInt8) (w : World) (a0 a1 a2 : Addr) (hr : Reads w w.heap.size 1 A n (u8s l)) (hA : ∀ ad, A = some ad → ad.block ≠ b) (hnc : n ≤ c) (hn : c ≤ 9223372036854775807) (hn2 : n ≤ 1000000) (hkn : OurL l) (he : ErrsM w a0 a1 a2) (h4 : 4 ≤ b)
    (hb : Blk w b 68 #[.slice none 0 0, .pointer none, .pointer none, .slice none 0 0, .int .i32 0]) :
    Calls Tryd.prog 28 #[.pointer (some ⟨b, 0, none⟩), .slice A n c] w (UlIs b (linkOf l) w) := by
  have hln : l.length = n := by have := hr.1; rw [u8s_length] at this; omega
  have hblt := hb.lt
  have HD0 := Lib.hid (LRep.start w hb)
  obtain ⟨R, hR⟩ : ∃ R, fd upL l.length PLk.zero l = R := ⟨_, rfl⟩
  rw [show linkOf l = R from hR]
  have HB0 := Lib.hid (World.grownBy.refl w (some b))
  have HR : Hid (∀ W, w.grownBy W (some b) → Reads W w.heap.size 1 A n (u8s l)) := fun W hg => hr.past hg (Nat.le_refl _) hA
  have HAB := Lib.hid hA
  have HLN := Lib.hid hln
  have HKN := Lib.hid hkn
  have HE : Hid (∀ W, w.grownBy W (some b) → ErrsM W a0 a1 a2) := fun W hg => he.past hg h4
  have HMS := Lib.hid hR
  have HBLT := Lib.hid hblt
  clear hr hln hkn he hb hR hA
  go_enter Tryd.func28, Tryd.ntmps28
  go_wp2
  refine wp_loop_ghost_k (fun k a wr => ∃ (i : Nat) (st : PLk) (vh vn vs : Value), Fr 267 a b n (.slice A n c) i ∧ i ≤ n ∧ Hid ((l.drop i).length ≤ k) ∧ Hid (LRep wr b w.heap.size st vh vn vs) ∧ Hid (OurL (l.drop i)) ∧ Hid (w.grownBy wr (some b)) ∧ Hid (fd upL k st (l.drop i) = R)) l.length ?start ?round
  case start => exact ⟨0, PLk.zero, _, _, _, ⟨rfl, rfl, rfl, rfl, rfl, rfl⟩, Nat.zero_le _, Nat.le_refl _, HD0.out, HKN.out, HB0.out, HMS.out⟩
  case round =>
    intro gk a wr hI J K hJ hK
    obtain ⟨i, st, vh, vn, vs, hfr, hin, HK, HD, HKn, HB, HM⟩ := hI
    obtain ⟨u, rfl⟩ := hfr.open267
    clear hfr
    have hE := HE.out _ HB.out
    have g0 := hE.e0
    have g1 := hE.e1
    have g2 := hE.e2
    have g5 := hE.lt
    have gx0 : 0 < wr.heap.size := by omega
    have gx1 : 1 < wr.heap.size := by omega
    have gx2 : 2 < wr.heap.size := by omega
    clear hE
    by_cases hend : n ≤ i
    · have hd : l.drop i = [] := List.drop_of_length_le (by have := HLN.out; omega)
      have HRS : Hid (R = some st) := by have h := HM.out; rw [hd, fd_nil] at h; exact h.symm
      have hlt : ¬ (i : Int) < n := by omega
      have hgt : ¬ (n : Int) < i := by omega
      clear hd
      go_wp2
      go_ret
      exact ⟨HB.out, .inr ⟨st, _, _, _, HRS.out, rfl, HD.out⟩⟩
    · have hlt : i < n := by omega
      obtain ⟨g, o, rfl, hgb, -⟩ := (HR.out _ HB.out).lit hlt
      have hgne : g ≠ b := HAB.out _ rfl
      have hxl : (l.drop i).length = n - i := by rw [List.length_drop, HLN.out]
      have HP := Lib.hid (Prt.start9 HKn.out.run.key)
      have HXL := Lib.hid hxl
      have HSZ := Lib.hid HB.out.size
      clear hxl
      go_wp2_with fail
      refine wp_loop_ghost_k (fun k a wx => wx = wr ∧ ∃ j acc : Nat, Fr 267 a b n (.slice (some ⟨g, o, none⟩) n c) (i + j) ∧ a.tmps.getD 8 undef = .int .u64 acc ∧ a.tmps.getD 9 undef = .int .u64 ((7 * j : Nat) : Int) ∧ Hid (k + j = 9) ∧ Hid (Prt 9 (l.drop i) j acc)) 9 ?wstart ?wround
      case wstart => exact ⟨rfl, 0, 0, ⟨rfl, rfl, rfl, rfl, rfl, rfl⟩, rfl, rfl, rfl, HP.out⟩
      case wround =>
        intro wk a wx hI J2 K2 hJ2 hK2
        obtain ⟨rfl, j, acc, hfr, h9, h10, HK2, hg⟩ := hI
        obtain ⟨p, hp⟩ : ∃ p, i + j = p := ⟨_, rfl⟩
        rw [hp] at hfr
        have HPP := Lib.hid hp
        obtain ⟨u, rfl⟩ := hfr.open267
        replace h9 : u 8 = _ := h9
        replace h10 : u 9 = _ := h10
        rw [h9, h10]
        clear hfr h9 h10 hp
        have hj8 := hg.out.lt9
        have hRx := HR.out _ HB.out
        by_cases hpe : n ≤ p
        · have HRN : Hid (R = none) := HM.out.symm.trans (fd_torn (pt_none1 (hg.out.torn (by have := HXL.out; have := HPP.out; omega))) (by have := HXL.out; omega) HK.out)
          clear hRx
          go_wp2
          go_ret
          exact UlIs.err HB.out HRN.out
        · obtain ⟨m, hm1, hm2, hm3⟩ := byte_in hRx HPP.out (by omega)
          by_cases hs : m.toNat < 128
          · obtain ⟨h1, h2⟩ := hg.out.last9 hm1 hs
            have e1 := low7b m.toNat hm3
            have e2 := or_join (7 * j) acc m.toNat hg.out.low (by omega)
            rw [Nat.mod_eq_of_lt hs] at e1
            obtain ⟨hko, hks⟩ := HKn.out.key h1
            have HVI := Lib.hid h1
            have HKS := Lib.hid hks
            have hb64 := HD.out.blk.lt
            have hg64 : g < wx.heap.size := Nat.lt_of_lt_of_le hgb HSZ.out
            have cb0 := HD.out.blk.cell 0
            have cb1 := HD.out.blk.cell 1
            have cb2 := HD.out.blk.cell 2
            have cb3 := HD.out.blk.cell 3
            have cb4 := HD.out.blk.cell 4
            have fb := HD.out.blk.frozen
            clear hm1 h1 h2 hRx hks
            generalize m.toNat = mm at *
            generalize acc + mm * 2 ^ (7 * j) = key at *
            rcases hko with rfl | rfl | rfl | rfl | rfl | rfl
            · have ek : bits .and .u64 8 7 = 0 := low3 8 (by omega)
              have HRN := Lib.hid (wrong_end HM.out HK.out HVI.out (fun t h1 h2 => by simp [upL, h1, h2]))
              go_wp2_with (first | (go_at_call 27; refine (errors_New _ _).mono ?_; rintro e w2 ⟨rfl, rfl⟩) | fail)
              go_ret
              exact UlIs.err (only_alloc HB.out _) HRN.out
            · have ek : bits .and .u64 10 7 = 2 := low3 10 (by omega)
              go_wp2_with fail
              refine wp_loop_ghost_k (fun k a wy => ∃ j2 acc2 : Nat, wy = wx ∧ Fr 267 a b n (.slice (some ⟨g, o, none⟩) n c) (p + 1 + j2) ∧ a.tmps.getD 13 undef = .int .i64 (acc2 : Int) ∧ a.tmps.getD 14 undef = .int .u64 ((7 * j2 : Nat) : Int) ∧ Hid (k + j2 = 9) ∧ Hid (Prt 9 (l.drop (p + 1)) j2 acc2)) 9 ?start10 ?round10
              case start10 => exact ⟨0, 0, rfl, ⟨rfl, rfl, rfl, rfl, rfl, rfl⟩, rfl, rfl, rfl, Prt.start9 (HKn.out.run.sec9 HVI.out HPP.out (by decide))⟩
              case round10 =>
                intro wk3 a wy hI J3 K3 hJ3 hK3
                obtain ⟨j2, acc2, rfl, hfr, h9, h10, HK3, hg2⟩ := hI
                obtain ⟨p2, hp⟩ : ∃ p2, p + 1 + j2 = p2 := ⟨_, rfl⟩
                rw [hp] at hfr
                have HPP2 := Lib.hid hp
                obtain ⟨u3, rfl⟩ := hfr.open267
                replace h9 : u3 13 = _ := h9
                replace h10 : u3 14 = _ := h10
                rw [h9, h10]
                clear hfr h9 h10 hp
                have hj8 := hg2.out.lt9
                have hlow2 := hg2.out.low
                have hRx := HR.out _ (HB.out)
                by_cases hpe : n ≤ p2
                · have HRN : Hid (R = none) := HM.out.symm.trans (fd_torn (torn2 HVI.out HPP.out (hg2.out.torn (by rw [List.length_drop, HLN.out]; have := HPP2.out; omega))) (by have := HXL.out; omega) HK.out)
                  clear hRx hlow2
                  go_wp2
                  go_ret
                  exact UlIs.err (HB.out) HRN.out
                · obtain ⟨m2, hm1, hm2, hm3⟩ := byte_in hRx HPP2.out (by omega)
                  by_cases hs : m2.toNat < 128
                  · obtain ⟨h1, h2⟩ := hg2.out.last9 hm1 hs
                    have e1 := low7b m2.toNat hm3
                    rw [Nat.mod_eq_of_lt hs] at e1
                    have e2 := or64 (7 * j2) acc2 m2.toNat hlow2 (by omega)
                    have HV2 := Lib.hid h1
                    have HX2 := Lib.hid h2
                    clear hm1 h1 h2 hRx hlow2
                    generalize m2.toNat = mm2 at *
                    generalize acc2 + mm2 * 2 ^ (7 * j2) = x at *
                    by_cases hx : p2 + 1 + x ≤ n
                    · have hxn : x ≤ n := Nat.le_trans (Nat.le_add_left _ _) hx
                      have HNE := bytes_end (P := fun _ _ => True) (O := OurL) HM.out HK.out HVI.out HPP.out HPP2.out HV2.out rfl HLN.out hx HKS.out (st' := { st with hh := true, hash := (l.drop (p2 + 1)).take x }) rfl
                      have hlv : ((l.drop (p2 + 1)).take x).length = x := take_len HLN.out hx
                      obtain ⟨hne, HM2, HKn2, HK2'⟩ := HNE
                      replace HM2 := Lib.hid HM2
                      replace HKn2 := Lib.hid HKn2
                      replace HK2' := Lib.hid HK2'
                      replace hlv := Lib.hid hlv
                      have hpn : p2 + 1 ≤ n := Nat.succ_le_of_lt (Nat.lt_of_not_le hpe)
                      have HSL := Lib.hid (head_slice (cut_slice (HR.out _ HB.out) hpn hnc) (le_of_sum hx))
                      have HI := Lib.hid (info_parts infoU8)
                      obtain ⟨i0, hi, hz0, hz1, hz2⟩ := HI.out
                      have hnx : n ≤ 100000000 := Nat.le_trans hn2 (by decide)
                      have HB63 := Lib.hid (le_max (Nat.le_trans hxn hn2))
                      have HB47 := Lib.hid (le_47 (Nat.le_trans hxn hn2))
                      have hsb1 := sb1 hx hnc
                      have hqn := eql_nil
                      have hsb2 := sb2 p2 x
                      have hsb3 := sb3 p2 x
                      have hsb4 := sb4 p2 x
                      have HOW := Lib.hid HD.out.hash
                      by_cases hx0 : 0 < x
                      · have hcp : ¬ c = p2 + 1 := ne_of_sum hx hx0 hnc
                        have hsl := HSL.out
                        rw [if_neg hcp] at hsl
                        have HNL : Hid ((u8s ((l.drop (p2 + 1)).take x)).length = x * 1) := by show _ = _; rw [u8s_length, hlv.out, Nat.mul_one]
                        have HNW : Hid (∀ j u, (u8s ((l.drop (p2 + 1)).take x))[j]? = some u → wy.cell? ((⟨g, o + (p2 + 1), none⟩ : Addr).add j) = some u) := by
                          obtain ⟨ad, e, -, h⟩ := hsl.2 hx0
                          obtain rfl := Option.some.inj e
                          exact h
                        clear hsl
                        rcases HOW.out.2 with ⟨hvd, hd0⟩ | ⟨gd, cd, cur, hvd, hgd, hh, hdc, -⟩
                        · subst hvd
                          have HRZ := Lib.hid (World.ownsRow_nil wy (w.heap.size) 5 1)
                          go_upto_region 56 with fail
                          go_region_law (first | (refine step_append_lies _ rfl (.tmp 160) (.tmp 164) 22 rfl (w.heap.size) 5 i0 (.int .u8 0) 1 1 Tryd.underlying22 hi hz0 hz1 hz2 rfl (by decide) (.slice none 0 0) 0 [] (by rfl) HRZ.out ⟨g, o + (p2 + 1), none⟩ x (c - (p2 + 1)) (u8s ((l.drop (p2 + 1)).take x)) (by rfl) HNL.out HNW.out (u8s_one _) hx0 HB63.out HB47.out HSZ.out _ rfl ?_; intro gg cap w5 hown5 hg5 hat5 hlt5; have HO5 := Lib.hid hown5; have HG5 := Lib.hid hg5; have k1 : w5.cell? ⟨b, 0, none⟩ = some (.slice none 0 0) := (HD.out.drew.hash_far HG5.out).cell 0; have k2 : w5.frozen? ⟨b, 0, none⟩ = false := (HD.out.drew.hash_far HG5.out).frozen 0; clear hown5 hg5 hat5 hlt5) | fail)
                          go_wp2
                          refine Handed.intro (gk - 1) (by have := hne; omega) (hJ _ _ _ ?_)
                          exact ⟨p2 + 1 + x, _, _, vn, vs, ⟨rfl, rfl, rfl, rfl, rfl, rfl⟩, hx, HK2', (HD.out.drew.setHash (d := (l.drop (p2 + 1)).take x) (n := x) (by have h := HO5.out; rw [List.nil_append, Nat.zero_add] at h; exact h) hlv.out.symm HG5.out (fun e => by cases e)), HKn2, only_setb (only_row (only_drewN HB.out 1) HG5.out (fun k e => .inr (own_base HOW.out k e))) 0 _, HM2⟩
                        · subst hvd
                          have HRZ := Lib.hid (reslice_zero HOW.out)
                          have hgb2 : gd < wy.heap.size := Blk.lt hh
                          clear hh
                          go_upto_region 56 with fail
                          go_region_law (first | (refine step_append_lies _ rfl (.tmp 160) (.tmp 164) 22 rfl (w.heap.size) 5 i0 (.int .u8 0) 1 1 Tryd.underlying22 hi hz0 hz1 hz2 rfl (by decide) (.slice (some ⟨gd, 0, none⟩) 0 cd) 0 [] (by rfl) HRZ.out ⟨g, o + (p2 + 1), none⟩ x (c - (p2 + 1)) (u8s ((l.drop (p2 + 1)).take x)) (by rfl) HNL.out HNW.out (u8s_one _) hx0 HB63.out HB47.out HSZ.out _ rfl ?_; intro gg cap w5 hown5 hg5 hat5 hlt5; have HO5 := Lib.hid hown5; have HG5 := Lib.hid hg5; have k1 : w5.cell? ⟨b, 0, none⟩ = some (.slice (some ⟨gd, 0, none⟩) st.hash.length cd) := (HD.out.drew.hash_far HG5.out).cell 0; have k2 : w5.frozen? ⟨b, 0, none⟩ = false := (HD.out.drew.hash_far HG5.out).frozen 0; clear hown5 hg5 hat5 hlt5) | fail)
                          go_wp2
                          refine Handed.intro (gk - 1) (by have := hne; omega) (hJ _ _ _ ?_)
                          exact ⟨p2 + 1 + x, _, _, vn, vs, ⟨rfl, rfl, rfl, rfl, rfl, rfl⟩, hx, HK2', (HD.out.drew.setHash (d := (l.drop (p2 + 1)).take x) (n := x) (by have h := HO5.out; rw [List.nil_append, Nat.zero_add] at h; exact h) hlv.out.symm HG5.out (fun e => by cases e)), HKn2, only_setb (only_row (only_drewN HB.out 1) HG5.out (fun k e => .inr (own_base HOW.out k e))) 0 _, HM2⟩
                      · have HX0 := Lib.hid (Nat.eq_zero_of_not_pos hx0)
                        clear hx0
                        by_cases hcp : c = p2 + 1
                        · have hcpT := eq_true hcp
                          clear hcp
                          rcases HOW.out.2 with ⟨hvd, hd0⟩ | ⟨gd, cd, cur, hvd, hgd, hh, hdc, -⟩
                          · subst hvd
                            have HRZ := Lib.hid (World.ownsRow_nil wy (w.heap.size) 5 1)
                            go_upto_region 56 with fail
                            go_region_law (first | (refine step_append_zero rfl (.tmp 160) (.tmp 164) 22 rfl 5 i0 Tryd.underlying22 hi (none) _ 0 0 _ _ (Nat.zero_le _) (by rfl) (by rfl) HX0.out ?_) | fail)
                            go_wp2
                            refine Handed.intro (gk - 1) (by have := hne; omega) (hJ _ _ _ ?_)
                            exact ⟨p2 + 1 + x, _, _, vn, vs, ⟨rfl, rfl, rfl, rfl, rfl, rfl⟩, hx, HK2', HD.out.emptyHash HSZ.out (zero_data HX0.out), HKn2, only_drewN (only_alloc (only_setb (only_setb HB.out 0 _) 0 _) _) 1, HM2⟩
                          · subst hvd
                            have HRZ := Lib.hid (reslice_zero HOW.out)
                            have hgb2 : gd < wy.heap.size := Blk.lt hh
                            clear hh
                            go_upto_region 56 with fail
                            go_region_law (first | (refine step_append_zero rfl (.tmp 160) (.tmp 164) 22 rfl 5 i0 Tryd.underlying22 hi (some ⟨gd, 0, none⟩) _ 0 cd _ _ (Nat.zero_le _) (by rfl) (by rfl) HX0.out ?_) | fail)
                            go_wp2
                            refine Handed.intro (gk - 1) (by have := hne; omega) (hJ _ _ _ ?_)
                            exact ⟨p2 + 1 + x, _, _, vn, vs, ⟨rfl, rfl, rfl, rfl, rfl, rfl⟩, hx, HK2', (HD.out.drew.setHash (by rw [zero_data HX0.out]; exact HRZ.out) (by rw [zero_data HX0.out]; rfl) (World.grownBy.refl _ _) (fun e => by cases e)), HKn2, only_setb (only_drewN HB.out 1) 0 _, HM2⟩
                        · skip
                          rcases HOW.out.2 with ⟨hvd, hd0⟩ | ⟨gd, cd, cur, hvd, hgd, hh, hdc, -⟩
                          · subst hvd
                            have HRZ := Lib.hid (World.ownsRow_nil wy (w.heap.size) 5 1)
                            go_upto_region 56 with fail
                            go_region_law (first | (refine step_append_zero rfl (.tmp 160) (.tmp 164) 22 rfl 5 i0 Tryd.underlying22 hi (none) _ 0 0 _ _ (Nat.zero_le _) (by rfl) (by rfl) HX0.out ?_) | fail)
                            go_wp2
                            refine Handed.intro (gk - 1) (by have := hne; omega) (hJ _ _ _ ?_)
                            exact ⟨p2 + 1 + x, _, _, vn, vs, ⟨rfl, rfl, rfl, rfl, rfl, rfl⟩, hx, HK2', HD.out.emptyHash HSZ.out (zero_data HX0.out), HKn2, only_drewN (only_alloc (only_setb (only_setb HB.out 0 _) 0 _) _) 1, HM2⟩
                          · subst hvd
                            have HRZ := Lib.hid (reslice_zero HOW.out)
                            have hgb2 : gd < wy.heap.size := Blk.lt hh
                            clear hh
                            go_upto_region 56 with fail
                            go_region_law (first | (refine step_append_zero rfl (.tmp 160) (.tmp 164) 22 rfl 5 i0 Tryd.underlying22 hi (some ⟨gd, 0, none⟩) _ 0 cd _ _ (Nat.zero_le _) (by rfl) (by rfl) HX0.out ?_) | fail)
                            go_wp2
                            refine Handed.intro (gk - 1) (by have := hne; omega) (hJ _ _ _ ?_)
                            exact ⟨p2 + 1 + x, _, _, vn, vs, ⟨rfl, rfl, rfl, rfl, rfl, rfl⟩, hx, HK2', (HD.out.drew.setHash (by rw [zero_data HX0.out]; exact HRZ.out) (by rw [zero_data HX0.out]; rfl) (World.grownBy.refl _ _) (fun e => by cases e)), HKn2, only_setb (only_drewN HB.out 1) 0 _, HM2⟩
                    · have HRN := Lib.hid (bytes_long HM.out HK.out HVI.out HPP.out HPP2.out HV2.out rfl HLN.out hx)
                      by_cases hbig : p2 + 1 + x < 9223372036854775808
                      · have hwr := post_small hbig
                        have hgt := gt_of hx
                        generalize p2 + 1 + x = pe at *
                        go_wp2
                        go_ret
                        exact UlIs.err HB.out HRN.out
                      · obtain ⟨z, hwr, hz⟩ := post_big hbig (Nat.lt_of_not_le hpe) hn2 HX2.out
                        go_wp2
                        go_ret
                        exact UlIs.err HB.out HRN.out
                  · have hnx := hg2.out.next hm1 hs
                    have e1 := low7b m2.toNat hm3
                    have hnl := hnx.low
                    have hnj := hnx.lt9
                    have h64 : acc2 + m2.toNat % 128 * 2 ^ (7 * j2) < 9223372036854775808 := Nat.lt_of_lt_of_le hnl (Nat.le_trans (Nat.pow_le_pow_right (by omega) (show 7 * (j2 + 1) ≤ 63 by omega)) (by decide))
                    have e2 := or64 (7 * j2) acc2 (m2.toNat % 128) hlow2 (by omega)
                    have hq : m2.toNat % 128 < 128 := by omega
                    have HNX := Lib.hid hnx
                    clear hm1 hnx hnl h64 hRx hlow2
                    generalize m2.toNat % 128 = qq at *
                    generalize m2.toNat = mm2 at *
                    generalize acc2 + qq * 2 ^ (7 * j2) = v at *
                    go_wp2
                    refine Handed.intro (wk3 - 1) (by have := HK3.out; omega) (hJ3 _ _ _ ?_)
                    exact ⟨j2 + 1, v, rfl, ⟨rfl, rfl, rfl, rfl, rfl, (show Value.int .i64 ((p2 : Int) + 1) = _ from congrArg (Value.int .i64) (by have := HPP2.out; omega))⟩, rfl, (show Value.int .u64 (7 * (j2 : Int) + 7) = _ from congrArg (Value.int .u64) (by omega)), by have := HK3.out; show _ = _; omega, HNX.out⟩
            · have ek : bits .and .u64 16 7 = 0 := low3 16 (by omega)
              have HRN := Lib.hid (wrong_end HM.out HK.out HVI.out (fun t h1 h2 => by simp [upL, h1, h2]))
              go_wp2_with (first | (go_at_call 27; refine (errors_New _ _).mono ?_; rintro e w2 ⟨rfl, rfl⟩) | fail)
              go_ret
              exact UlIs.err (only_alloc HB.out _) HRN.out
            · have ek : bits .and .u64 18 7 = 2 := low3 18 (by omega)
              go_wp2_with fail
              refine wp_loop_ghost_k (fun k a wy => ∃ j2 acc2 : Nat, wy = wx ∧ Fr 267 a b n (.slice (some ⟨g, o, none⟩) n c) (p + 1 + j2) ∧ a.tmps.getD 17 undef = .int .u64 (acc2 : Int) ∧ a.tmps.getD 18 undef = .int .u64 ((7 * j2 : Nat) : Int) ∧ Hid (k + j2 = 9) ∧ Hid (Prt 9 (l.drop (p + 1)) j2 acc2)) 9 ?start18 ?round18
              case start18 => exact ⟨0, 0, rfl, ⟨rfl, rfl, rfl, rfl, rfl, rfl⟩, rfl, rfl, rfl, Prt.start9 (HKn.out.run.sec9 HVI.out HPP.out (by decide))⟩
              case round18 =>
                intro wk3 a wy hI J3 K3 hJ3 hK3
                obtain ⟨j2, acc2, rfl, hfr, h9, h10, HK3, hg2⟩ := hI
                obtain ⟨p2, hp⟩ : ∃ p2, p + 1 + j2 = p2 := ⟨_, rfl⟩
                rw [hp] at hfr
                have HPP2 := Lib.hid hp
                obtain ⟨u3, rfl⟩ := hfr.open267
                replace h9 : u3 17 = _ := h9
                replace h10 : u3 18 = _ := h10
                rw [h9, h10]
                clear hfr h9 h10 hp
                have hj8 := hg2.out.lt9
                have hlow2 := hg2.out.low
                have hRx := HR.out _ (HB.out)
                by_cases hpe : n ≤ p2
                · have HRN : Hid (R = none) := HM.out.symm.trans (fd_torn (torn2 HVI.out HPP.out (hg2.out.torn (by rw [List.length_drop, HLN.out]; have := HPP2.out; omega))) (by have := HXL.out; omega) HK.out)
                  clear hRx hlow2
                  go_wp2
                  go_ret
                  exact UlIs.err (HB.out) HRN.out
                · obtain ⟨m2, hm1, hm2, hm3⟩ := byte_in hRx HPP2.out (by omega)
                  by_cases hs : m2.toNat < 128
                  · obtain ⟨h1, h2⟩ := hg2.out.last9 hm1 hs
                    have e1 := low7b m2.toNat hm3
                    rw [Nat.mod_eq_of_lt hs] at e1
                    have e2 := or_join (7 * j2) acc2 m2.toNat hlow2 (by omega)
                    have HV2 := Lib.hid h1
                    have HX2 := Lib.hid h2
                    clear hm1 h1 h2 hRx hlow2
                    generalize m2.toNat = mm2 at *
                    generalize acc2 + mm2 * 2 ^ (7 * j2) = x at *
                    have hx63 : x ≤ 9223372036854775807 := by have := HX2.out; omega
                    by_cases hx : p2 + 1 + x ≤ n
                    · have hxn : x ≤ n := Nat.le_trans (Nat.le_add_left _ _) hx
                      have HNE := bytes_end (P := fun _ _ => True) (O := OurL) HM.out HK.out HVI.out HPP.out HPP2.out HV2.out rfl HLN.out hx HKS.out (st' := { st with hn := true, name := ⟨((l.drop (p2 + 1)).take x).toArray⟩ }) rfl
                      have hlv : ((l.drop (p2 + 1)).take x).length = x := take_len HLN.out hx
                      obtain ⟨hne, HM2, HKn2, HK2'⟩ := HNE
                      replace HM2 := Lib.hid HM2
                      replace HKn2 := Lib.hid HKn2
                      replace HK2' := Lib.hid HK2'
                      replace hlv := Lib.hid hlv
                      have hpn : p2 + 1 ≤ n := Nat.succ_le_of_lt (Nat.lt_of_not_le hpe)
                      have HSL := Lib.hid (head_slice (cut_slice (HR.out _ HB.out) hpn hnc) (le_of_sum hx))
                      have HI := Lib.hid (info_parts infoU8)
                      obtain ⟨i0, hi, hz0, hz1, hz2⟩ := HI.out
                      have hnx : n ≤ 100000000 := Nat.le_trans hn2 (by decide)
                      have HB63 := Lib.hid (le_max (Nat.le_trans hxn hn2))
                      have HB47 := Lib.hid (le_47 (Nat.le_trans hxn hn2))
                      have hsb1 := sb1 hx hnc
                      have hqn := eql_nil
                      have hsb2 := sb2 p2 x
                      have hsb3 := sb3 p2 x
                      have hsb4 := sb4 p2 x
                      have hsl := HSL.out
                      by_cases hcp : c = p2 + 1
                      · rw [if_pos hcp] at hsl
                        have hcpT := eq_true hcp
                        clear hcp
                        have kcv := run_convert_reads (P := Tryd.prog) wy 22 5 Tryd.underlying22 Tryd.underlying5 w.heap.size (some ⟨g, o, none⟩) x (c - (p2 + 1)) ((l.drop (p2 + 1)).take x) hsl 9 Tryd.underlying9
                        clear hsl
                        go_wp2
                        refine Handed.intro (gk - 1) (by have := hne; omega) (hJ _ _ _ ?_)
                        rw [ptr_world hb64]
                        exact ⟨p2 + 1 + x, _, vh, _, vs, ⟨rfl, rfl, rfl, rfl, rfl, rfl⟩, hx, HK2', (HD.out.alloc _).setName (Blk.new _ _ _) HSZ.out, HKn2, only_setb (only_alloc HB.out _) 1 _, HM2⟩
                      · rw [if_neg hcp] at hsl
                        have kcv := run_convert_reads (P := Tryd.prog) wy 22 5 Tryd.underlying22 Tryd.underlying5 w.heap.size (some ⟨g, o + (p2 + 1), none⟩) x (c - (p2 + 1)) ((l.drop (p2 + 1)).take x) hsl 9 Tryd.underlying9
                        clear hsl
                        go_wp2
                        refine Handed.intro (gk - 1) (by have := hne; omega) (hJ _ _ _ ?_)
                        rw [ptr_world hb64]
                        exact ⟨p2 + 1 + x, _, vh, _, vs, ⟨rfl, rfl, rfl, rfl, rfl, rfl⟩, hx, HK2', (HD.out.alloc _).setName (Blk.new _ _ _) HSZ.out, HKn2, only_setb (only_alloc HB.out _) 1 _, HM2⟩
                    · have HRN := Lib.hid (bytes_long HM.out HK.out HVI.out HPP.out HPP2.out HV2.out rfl HLN.out hx)
                      by_cases hbig : p2 + 1 + x < 9223372036854775808
                      · have hwr := post_small hbig
                        have hgt := gt_of hx
                        generalize p2 + 1 + x = pe at *
                        go_wp2
                        go_ret
                        exact UlIs.err HB.out HRN.out
                      · obtain ⟨z, hwr, hz⟩ := post_big hbig (Nat.lt_of_not_le hpe) hn2 HX2.out
                        go_wp2
                        go_ret
                        exact UlIs.err HB.out HRN.out
                  · have hnx := hg2.out.next hm1 hs
                    have e1 := low7b m2.toNat hm3
                    have hnl := hnx.low
                    have hnj := hnx.lt9
                    have h64 : acc2 + m2.toNat % 128 * 2 ^ (7 * j2) < 9223372036854775808 := Nat.lt_of_lt_of_le hnl (Nat.le_trans (Nat.pow_le_pow_right (by omega) (show 7 * (j2 + 1) ≤ 63 by omega)) (by decide))
                    have e2 := or_join (7 * j2) acc2 (m2.toNat % 128) hlow2 (by omega)
                    have hq : m2.toNat % 128 < 128 := by omega
                    have HNX := Lib.hid hnx
                    clear hm1 hnx hnl h64 hRx hlow2
                    generalize m2.toNat % 128 = qq at *
                    generalize m2.toNat = mm2 at *
                    generalize acc2 + qq * 2 ^ (7 * j2) = v at *
                    go_wp2
                    refine Handed.intro (wk3 - 1) (by have := HK3.out; omega) (hJ3 _ _ _ ?_)
                    exact ⟨j2 + 1, v, rfl, ⟨rfl, rfl, rfl, rfl, rfl, (show Value.int .i64 ((p2 : Int) + 1) = _ from congrArg (Value.int .i64) (by have := HPP2.out; omega))⟩, rfl, (show Value.int .u64 (7 * (j2 : Int) + 7) = _ from congrArg (Value.int .u64) (by omega)), by have := HK3.out; show _ = _; omega, HNX.out⟩
            · have ek : bits .and .u64 24 7 = 0 := low3 24 (by omega)
              go_wp2_with fail
              refine wp_loop_ghost_k (fun k a wy => ∃ j2 acc2 : Nat, wy = wx.alloc (.cells #[.int .u64 (acc2 : Nat)] 24) ∧ Fr 267 a b n (.slice (some ⟨g, o, none⟩) n c) (p + 1 + j2) ∧ a.tmps.getD 23 undef = .pointer (some ⟨wx.heap.size, 0, none⟩) ∧ a.tmps.getD 24 undef = .int .u64 ((7 * j2 : Nat) : Int) ∧ Hid (k + j2 = 10) ∧ Hid (Prt 10 (l.drop (p + 1)) j2 acc2)) 10 ?start24 ?round24
              case start24 => exact ⟨0, 0, rfl, ⟨rfl, rfl, rfl, rfl, rfl, rfl⟩, rfl, rfl, rfl, Prt.start10 (HKn.out.run.sec10 HVI.out HPP.out)⟩
              case round24 =>
                intro wk3 a wy hI J3 K3 hJ3 hK3
                obtain ⟨j2, acc2, rfl, hfr, h9, h10, HK3, hg2⟩ := hI
                obtain ⟨p2, hp⟩ : ∃ p2, p + 1 + j2 = p2 := ⟨_, rfl⟩
                rw [hp] at hfr
                have HPP2 := Lib.hid hp
                obtain ⟨u3, rfl⟩ := hfr.open267
                replace h9 : u3 23 = _ := h9
                replace h10 : u3 24 = _ := h10
                rw [h9, h10]
                clear hfr h9 h10 hp
                have hj8 := hg2.out.lt10
                have hlow2 := hg2.out.low
                have hRx := HR.out _ (only_alloc HB.out (.cells #[.int .u64 (acc2 : Nat)] 24))
                by_cases hpe : n ≤ p2
                · have HRN : Hid (R = none) := HM.out.symm.trans (fd_torn (torn2 HVI.out HPP.out (hg2.out.torn (by rw [List.length_drop, HLN.out]; have := HPP2.out; omega))) (by have := HXL.out; omega) HK.out)
                  clear hRx hlow2
                  go_wp2
                  go_ret
                  exact UlIs.err (only_alloc HB.out (.cells #[.int .u64 (acc2 : Nat)] 24)) HRN.out
                · obtain ⟨m2, hm1, hm2, hm3⟩ := byte_in hRx HPP2.out (by omega)
                  by_cases hs : m2.toNat < 128
                  · obtain ⟨h1, h2⟩ := hg2.out.last10 hm1 hs
                    have e1 := low7b m2.toNat hm3
                    rw [Nat.mod_eq_of_lt hs] at e1
                    have e2 := or_join (7 * j2) acc2 m2.toNat hlow2 (by omega)
                    have HV2 := Lib.hid h1
                    have HX2 := Lib.hid h2
                    clear hm1 h1 h2 hRx hlow2
                    generalize m2.toNat = mm2 at *
                    generalize acc2 + mm2 * 2 ^ (7 * j2) = x at *
                    have HNE := num_end (P := fun _ _ => True) (O := OurL) HM.out HK.out HVI.out HPP.out HPP2.out HV2.out rfl HKS.out (st' := { st with hs := true, size := x }) rfl
                    obtain ⟨hne, HM2, HKn2, HK2'⟩ := HNE
                    replace HM2 := Lib.hid HM2
                    replace HKn2 := Lib.hid HKn2
                    replace HK2' := Lib.hid HK2'
                    go_wp2
                    refine Handed.intro (gk - 1) (by have := hne; omega) (hJ _ _ _ ?_)
                    rw [ptr_world hb64]
                    exact ⟨p2 + 1, _, vh, vn, _, ⟨rfl, rfl, rfl, rfl, rfl, (show Value.int .i64 ((p2 : Int) + 1) = _ from congrArg (Value.int .i64) (by omega))⟩, by omega, HK2', (HD.out.alloc _).setSize (Blk.new _ _ _) HSZ.out HX2.out, HKn2, only_setb (only_alloc HB.out _) 2 _, HM2⟩
                  · have hnx := hg2.out.next hm1 hs
                    have e1 := low7b m2.toNat hm3
                    have hnl := hnx.low
                    have hnj := hnx.lt10
                    have h64 : acc2 + m2.toNat % 128 * 2 ^ (7 * j2) < 9223372036854775808 := Nat.lt_of_lt_of_le hnl (Nat.le_trans (Nat.pow_le_pow_right (by omega) (show 7 * (j2 + 1) ≤ 63 by omega)) (by decide))
                    have e2 := or_join (7 * j2) acc2 (m2.toNat % 128) hlow2 (by omega)
                    have hq : m2.toNat % 128 < 128 := by omega
                    have HNX := Lib.hid hnx
                    clear hm1 hnx hnl h64 hRx hlow2
                    generalize m2.toNat % 128 = qq at *
                    generalize m2.toNat = mm2 at *
                    generalize acc2 + qq * 2 ^ (7 * j2) = v at *
                    go_wp2
                    refine Handed.intro (wk3 - 1) (by have := HK3.out; omega) (hJ3 _ _ _ ?_)
                    exact ⟨j2 + 1, v, rfl, ⟨rfl, rfl, rfl, rfl, rfl, (show Value.int .i64 ((p2 : Int) + 1) = _ from congrArg (Value.int .i64) (by have := HPP2.out; omega))⟩, rfl, (show Value.int .u64 (7 * (j2 : Int) + 7) = _ from congrArg (Value.int .u64) (by omega)), by have := HK3.out; show _ = _; omega, HNX.out⟩
            · have ek : bits .and .u64 26 7 = 2 := low3 26 (by omega)
              have HRN := Lib.hid (wrong_end HM.out HK.out HVI.out (fun t h1 h2 => by simp [upL, h1, h2]))
              go_wp2_with (first | (go_at_call 27; refine (errors_New _ _).mono ?_; rintro e w2 ⟨rfl, rfl⟩) | fail)
              go_ret
              exact UlIs.err (only_alloc HB.out _) HRN.out
          · have hnx := hg.out.next hm1 hs
            have e1 := low7b m.toNat hm3
            have hnl := hnx.low
            have hnj := hnx.lt9
            have h64 : acc + m.toNat % 128 * 2 ^ (7 * j) < 18446744073709551616 := Nat.lt_of_lt_of_le hnl (Nat.le_trans (Nat.pow_le_pow_right (by omega) (show 7 * (j + 1) ≤ 63 by omega)) (by decide))
            have e2 := or_join (7 * j) acc (m.toNat % 128) hg.out.low h64
            have hq : m.toNat % 128 < 128 := by omega
            have HNX := Lib.hid hnx
            clear hm1 hnx hnl h64 hRx
            generalize m.toNat % 128 = q at *
            generalize m.toNat = mm at *
            generalize acc + q * 2 ^ (7 * j) = v at *
            go_wp2
            refine Handed.intro (wk - 1) (by have := HK2.out; omega) (hJ2 _ _ _ ?_)
            exact ⟨rfl, j + 1, v, ⟨rfl, rfl, rfl, rfl, rfl, by have := HPP.out; show Value.int .i64 _ = _; congr 1; omega⟩, rfl, (show Value.int .u64 (7 * (j : Int) + 7) = _ from congrArg (Value.int .u64) (by omega)), by have := HK2.out; show _ = _; omega, HNX.out⟩
end Go.Proofs.YthgbhaackihbjaaDoor
