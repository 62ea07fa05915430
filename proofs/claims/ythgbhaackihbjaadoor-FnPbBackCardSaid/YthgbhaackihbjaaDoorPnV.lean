/- Unmarshal of PBNode: known fields are read as the plain law says; a torn one, or one of the wrong kind, is an error. -/
import Derived.Deep.RegionHeld3
import Derived.Test.YthgbhaackihbjaaDoorPnS
import Derived.Test.YthgbhaackihbjaaDoorPnU
namespace Go.Proofs.YthgbhaackihbjaaDoor
open Go.RowKit

/-- What is asked of a field's value. -/
def PN (key : Nat) (v : List UInt8) : Prop := key = 18 → OurL v
theorem at_of {gg H n c : Nat} {v vd : Value} {W : World} (h : v.ownBlock = some gg ∨ gg = H) (hv : v.ownBlock = vd.ownBlock) (hH : W.heap.size = H) : ∀ k, (Value.slice (some ⟨gg, 0, none⟩) n c).ownBlock = some k → vd.ownBlock = some k ∨ W.heap.size ≤ k := by
  intro k e
  have e2 : gg = k := by simpa [Value.ownBlock] using e
  subst e2
  rcases h with h | h
  · exact .inl (hv ▸ h)
  · exact .inr (by omega)
theorem wpList_append_oneH {H : Nat} {P : Program} {ops : Array Oper} {rest : List Oper} {o : Oper} {a : Act} {Q : Exit → Act → World → Prop} {W : World} {e : TypeId} {y : Value} (hgd : o.guard = none) (s x : Operand) (t : TypeId)
    (ho : o.op = .call { callee := .builtin .append, args := #[s, x], argTypes := #[t, t] })
    (base : Nat) (i : TypeInfo) (z : Value) (bytes : Nat) (ht : P.underlying t = some (.slice e)) (hi : P.info? e = some i) (hz : i.zero = some z)
    (hsize : i.size = 1) (hby : i.bytes = bytes) (hzs : z.cells.size = 1)
    (v : Value) (n : Nat) (xs : List Value) (hs : a.eval s = v) (hown : W.ownsRow base e 1 v n xs)
    (hH : W.heap.size = H) (hx : a.eval x = .slice (some ⟨H, 0, none⟩) 1 1) (h1 : y.oneCell' = true)
    (h63 : n + 1 ≤ maxLen) (hbytes : (n + 1) * bytes ≤ 140737488355328) (hbase : base ≤ W.heap.size)
    (h : ∀ v' w', w'.ownsRow base e 1 v' (n + 1) (xs ++ [y]) → W.grownBy w' v.ownBlock → (v'.ownBlock = v.ownBlock ∨ ∃ k, v'.ownBlock = some k ∧ W.heap.size ≤ k) → v' ≠ .slice none 0 0 → wpList P ops Q rest (a.put o.dst v') w') : wpList P ops Q (o :: rest) a (W.alloc (.cells #[y] e)) := by
  subst hH
  exact wpList_append_one hgd s x t ho base i z bytes ht hi hz hsize hby hzs v n xs hs hown hx h1 h63 hbytes hbase h
theorem infoPL : (Tryd.prog.info? 64).map (fun i => (i.zero, i.size, i.bytes)) = some (some (.pointer none), 1, 8) := by kernel_rfl
theorem upN_none {st : PNd} {V : List UInt8} {sz : Nat} (h : linkOf V = none) : upN st ⟨18 / 8, 2, 0, V, sz⟩ = none := by simp [upN, h]
theorem upN_some {st : PNd} {V : List UInt8} {sz : Nat} {lk : PLk} (h : linkOf V = some lk) : upN st ⟨18 / 8, 2, 0, V, sz⟩ = some { st with links := st.links ++ [lk] } := by simp [upN, h]
theorem ps_max {s i n : Nat} (h : s ≤ i) (hi : i < n) (hn : n ≤ 1000000) : s + 1 ≤ maxLen := by unfold maxLen; omega
theorem ps_47 {s i n : Nat} (h : s ≤ i) (hi : i < n) (hn : n ≤ 1000000) : (s + 1) * 8 ≤ 140737488355328 := by omega
set_option maxRecDepth 100000 in
set_option maxHeartbeats 40000000 in
theorem unmarshalN_any (b : Nat) (A : Option Addr) (n c : Nat) (l : List UInt8) (w : World) (a0 a1 a2 : Addr) (hr : Reads w w.heap.size 1 A n (u8s l)) (hA : ∀ ad, A = some ad → ad.block ≠ b) (hnc : n ≤ c) (hn : c ≤ 9223372036854775807) (hn2 : n ≤ 1000000) (hkn : OurN l) (he : ErrsM w a0 a1 a2) (h4 : 4 ≤ b)
    (hb : Blk w b 46 #[.slice none 0 0, .slice none 0 0, .slice none 0 0, .int .i32 0]) :
    Calls Tryd.prog 17 #[.pointer (some ⟨b, 0, none⟩), .slice A n c] w (UnIs b (nodeOf l) w) := by
  have hln : l.length = n := by have := hr.1; rw [u8s_length] at this; omega
  have hblt := hb.lt
  have HD0 := Lib.hid (NRep.start w hb)
  obtain ⟨R, hR⟩ : ∃ R, fd upN l.length PNd.zero l = R := ⟨_, rfl⟩
  rw [show nodeOf l = R from hR]
  have HB0 := Lib.hid (World.grownBy.refl w (some b))
  have HR : Hid (∀ W, w.grownBy W (some b) → Reads W w.heap.size 1 A n (u8s l)) := fun W hg => hr.past hg (Nat.le_refl _) hA
  have HAB := Lib.hid hA
  have HLN := Lib.hid hln
  have HKN := Lib.hid hkn
  have HE : Hid (∀ W, w.grownBy W (some b) → ErrsM W a0 a1 a2) := fun W hg => he.past hg h4
  have HMS := Lib.hid hR
  have HBLT := Lib.hid hblt
  clear hr hln hkn he hb hR hA
  go_enter Tryd.func17, Tryd.ntmps17
  go_wp2
  refine wp_loop_ghost_k (fun k a wr => ∃ (i : Nat) (st : PNd) (vl vd : Value) (ps : List Nat), Fr 252 a b n (.slice A n c) i ∧ i ≤ n ∧ Hid ((l.drop i).length ≤ k) ∧ Hid (NRep wr b w.heap.size st vl vd ps) ∧ Hid (OurN (l.drop i)) ∧ Hid (w.grownBy wr (some b)) ∧ Hid (fd upN k st (l.drop i) = R) ∧ Hid (ps.length ≤ i)) l.length ?start ?round
  case start => exact ⟨0, PNd.zero, _, _, _, ⟨rfl, rfl, rfl, rfl, rfl, rfl⟩, Nat.zero_le _, Nat.le_refl _, HD0.out, HKN.out, HB0.out, HMS.out, Nat.zero_le _⟩
  case round =>
    intro gk a wr hI J K hJ hK
    obtain ⟨i, st, vl, vd, ps, hfr, hin, HK, HD, HKn, HB, HM, HPS⟩ := hI
    obtain ⟨u, rfl⟩ := hfr.open252
    clear hfr
    have hE := HE.out _ HB.out
    have g0 := hE.e0
    have g1 := hE.e1
    have g2 := hE.e2
    have g5 := hE.lt
    have gx0 : 0 < wr.heap.size := by omega
    have gx1 : 1 < wr.heap.size := by omega
    have gx2 : 2 < wr.heap.size := by omega
    clear hE
    by_cases hend : n ≤ i
    · have hd : l.drop i = [] := List.drop_of_length_le (by have := HLN.out; omega)
      have HRS : Hid (R = some st) := by have h := HM.out; rw [hd, fd_nil] at h; exact h.symm
      have hlt : ¬ (i : Int) < n := by omega
      have hgt : ¬ (n : Int) < i := by omega
      clear hd
      go_wp2
      go_ret
      exact ⟨HB.out, .inr ⟨st, _, _, _, HRS.out, rfl, HD.out⟩⟩
    · have hlt : i < n := by omega
      obtain ⟨g, o, rfl, hgb, -⟩ := (HR.out _ HB.out).lit hlt
      have hgne : g ≠ b := HAB.out _ rfl
      have hxl : (l.drop i).length = n - i := by rw [List.length_drop, HLN.out]
      have HP := Lib.hid (Prt.start9 HKn.out.run.key)
      have HXL := Lib.hid hxl
      have HSZ := Lib.hid HB.out.size
      clear hxl
      go_wp2_with fail
      refine wp_loop_ghost_k (fun k a wx => wx = wr ∧ ∃ j acc : Nat, Fr 252 a b n (.slice (some ⟨g, o, none⟩) n c) (i + j) ∧ a.tmps.getD 8 undef = .int .u64 acc ∧ a.tmps.getD 9 undef = .int .u64 ((7 * j : Nat) : Int) ∧ Hid (k + j = 9) ∧ Hid (Prt 9 (l.drop i) j acc)) 9 ?wstart ?wround
      case wstart => exact ⟨rfl, 0, 0, ⟨rfl, rfl, rfl, rfl, rfl, rfl⟩, rfl, rfl, rfl, HP.out⟩
      case wround =>
        intro wk a wx hI J2 K2 hJ2 hK2
        obtain ⟨rfl, j, acc, hfr, h9, h10, HK2, hg⟩ := hI
        obtain ⟨p, hp⟩ : ∃ p, i + j = p := ⟨_, rfl⟩
        rw [hp] at hfr
        have HPP := Lib.hid hp
        obtain ⟨u, rfl⟩ := hfr.open252
        replace h9 : u 8 = _ := h9
        replace h10 : u 9 = _ := h10
        rw [h9, h10]
        clear hfr h9 h10 hp
        have hj8 := hg.out.lt9
        have hRx := HR.out _ HB.out
        by_cases hpe : n ≤ p
        · have HRN : Hid (R = none) := HM.out.symm.trans (fd_torn (pt_none1 (hg.out.torn (by have := HXL.out; have := HPP.out; omega))) (by have := HXL.out; omega) HK.out)
          clear hRx
          go_wp2
          go_ret
          exact UnIs.err HB.out HRN.out
        · obtain ⟨m, hm1, hm2, hm3⟩ := byte_in hRx HPP.out (by omega)
          by_cases hs : m.toNat < 128
          · obtain ⟨h1, h2⟩ := hg.out.last9 hm1 hs
            have e1 := low7b m.toNat hm3
            have e2 := or_join (7 * j) acc m.toNat hg.out.low (by omega)
            rw [Nat.mod_eq_of_lt hs] at e1
            obtain ⟨hko, hks⟩ := HKn.out.key h1
            have HVI := Lib.hid h1
            have HKS : Hid (∀ t, pt (l.drop i) = some t → PN (acc + m.toNat * 2 ^ (7 * j)) t.val ∧ OurN ((l.drop i).drop t.size)) := hks
            have hb64 := HD.out.blk.lt
            have hg64 : g < wx.heap.size := Nat.lt_of_lt_of_le hgb HSZ.out
            have cb0 := HD.out.blk.cell 0
            have cb1 := HD.out.blk.cell 1
            have cb2 := HD.out.blk.cell 2
            have cb3 := HD.out.blk.cell 3
            have fb := HD.out.blk.frozen
            clear hm1 h1 h2 hRx hks
            generalize m.toNat = mm at *
            generalize acc + mm * 2 ^ (7 * j) = key at *
            rcases hko with rfl | rfl | rfl | rfl
            · have ek : bits .and .u64 8 7 = 0 := low3 8 (by omega)
              have HRN := Lib.hid (wrong_end HM.out HK.out HVI.out (fun t h1 h2 => by simp [upN, h2]))
              go_wp2_with (first | (go_at_call 27; refine (errors_New _ _).mono ?_; rintro e w2 ⟨rfl, rfl⟩) | fail)
              go_ret
              exact UnIs.err (only_alloc HB.out _) HRN.out
            · have ek : bits .and .u64 10 7 = 2 := low3 10 (by omega)
              go_wp2_with fail
              refine wp_loop_ghost_k (fun k a wy => ∃ j2 acc2 : Nat, wy = wx ∧ Fr 252 a b n (.slice (some ⟨g, o, none⟩) n c) (p + 1 + j2) ∧ a.tmps.getD 13 undef = .int .i64 (acc2 : Int) ∧ a.tmps.getD 14 undef = .int .u64 ((7 * j2 : Nat) : Int) ∧ Hid (k + j2 = 9) ∧ Hid (Prt 9 (l.drop (p + 1)) j2 acc2)) 9 ?start10 ?round10
              case start10 => exact ⟨0, 0, rfl, ⟨rfl, rfl, rfl, rfl, rfl, rfl⟩, rfl, rfl, rfl, Prt.start9 (HKn.out.run.sec9 HVI.out HPP.out (by decide))⟩
              case round10 =>
                intro wk3 a wy hI J3 K3 hJ3 hK3
                obtain ⟨j2, acc2, rfl, hfr, h9, h10, HK3, hg2⟩ := hI
                obtain ⟨p2, hp⟩ : ∃ p2, p + 1 + j2 = p2 := ⟨_, rfl⟩
                rw [hp] at hfr
                have HPP2 := Lib.hid hp
                obtain ⟨u3, rfl⟩ := hfr.open252
                replace h9 : u3 13 = _ := h9
                replace h10 : u3 14 = _ := h10
                rw [h9, h10]
                clear hfr h9 h10 hp
                have hj8 := hg2.out.lt9
                have hlow2 := hg2.out.low
                have hRx := HR.out _ (HB.out)
                by_cases hpe : n ≤ p2
                · have HRN : Hid (R = none) := HM.out.symm.trans (fd_torn (torn2 HVI.out HPP.out (hg2.out.torn (by rw [List.length_drop, HLN.out]; have := HPP2.out; omega))) (by have := HXL.out; omega) HK.out)
                  clear hRx hlow2
                  go_wp2
                  go_ret
                  exact UnIs.err (HB.out) HRN.out
                · obtain ⟨m2, hm1, hm2, hm3⟩ := byte_in hRx HPP2.out (by omega)
                  by_cases hs : m2.toNat < 128
                  · obtain ⟨h1, h2⟩ := hg2.out.last9 hm1 hs
                    have e1 := low7b m2.toNat hm3
                    rw [Nat.mod_eq_of_lt hs] at e1
                    have e2 := or64 (7 * j2) acc2 m2.toNat hlow2 (by omega)
                    have HV2 := Lib.hid h1
                    have HX2 := Lib.hid h2
                    clear hm1 h1 h2 hRx hlow2
                    generalize m2.toNat = mm2 at *
                    generalize acc2 + mm2 * 2 ^ (7 * j2) = x at *
                    by_cases hx : p2 + 1 + x ≤ n
                    · have hxn : x ≤ n := Nat.le_trans (Nat.le_add_left _ _) hx
                      have HNE := bytes_end (P := PN) (O := OurN) HM.out HK.out HVI.out HPP.out HPP2.out HV2.out rfl HLN.out hx HKS.out (st' := { st with has := true, data := (l.drop (p2 + 1)).take x }) rfl
                      have hlv : ((l.drop (p2 + 1)).take x).length = x := take_len HLN.out hx
                      obtain ⟨hne, HM2, HKn2, HK2'⟩ := HNE
                      replace HM2 := Lib.hid HM2
                      replace HKn2 := Lib.hid HKn2
                      replace HK2' := Lib.hid HK2'
                      replace hlv := Lib.hid hlv
                      have hpn : p2 + 1 ≤ n := Nat.succ_le_of_lt (Nat.lt_of_not_le hpe)
                      have HSL := Lib.hid (head_slice (cut_slice (HR.out _ HB.out) hpn hnc) (le_of_sum hx))
                      have HI := Lib.hid (info_parts infoU8)
                      obtain ⟨i0, hi, hz0, hz1, hz2⟩ := HI.out
                      have hnx : n ≤ 100000000 := Nat.le_trans hn2 (by decide)
                      have HB63 := Lib.hid (le_max (Nat.le_trans hxn hn2))
                      have HB47 := Lib.hid (le_47 (Nat.le_trans hxn hn2))
                      have hsb1 := sb1 hx hnc
                      have hqn := eql_nil
                      have hsb2 := sb2 p2 x
                      have hsb3 := sb3 p2 x
                      have hsb4 := sb4 p2 x
                      have HOW := Lib.hid HD.out.data
                      by_cases hx0 : 0 < x
                      · have hcp : ¬ c = p2 + 1 := ne_of_sum hx hx0 hnc
                        have hsl := HSL.out
                        rw [if_neg hcp] at hsl
                        have HNL : Hid ((u8s ((l.drop (p2 + 1)).take x)).length = x * 1) := by show _ = _; rw [u8s_length, hlv.out, Nat.mul_one]
                        have HNW : Hid (∀ j u, (u8s ((l.drop (p2 + 1)).take x))[j]? = some u → wy.cell? ((⟨g, o + (p2 + 1), none⟩ : Addr).add j) = some u) := by
                          obtain ⟨ad, e, -, h⟩ := hsl.2 hx0
                          obtain rfl := Option.some.inj e
                          exact h
                        clear hsl
                        rcases HOW.out.2 with ⟨hvd, hd0⟩ | ⟨gd, cd, cur, hvd, hgd, hh, hdc, -⟩
                        · subst hvd
                          have HRZ := Lib.hid (World.ownsRow_nil wy (w.heap.size) 5 1)
                          go_upto_region 56 with fail
                          go_region_law (first | (refine step_append_lies _ rfl (.tmp 156) (.tmp 160) 22 rfl (w.heap.size) 5 i0 (.int .u8 0) 1 1 Tryd.underlying22 hi hz0 hz1 hz2 rfl (by decide) (.slice none 0 0) 0 [] (by rfl) HRZ.out ⟨g, o + (p2 + 1), none⟩ x (c - (p2 + 1)) (u8s ((l.drop (p2 + 1)).take x)) (by rfl) HNL.out HNW.out (u8s_one _) hx0 HB63.out HB47.out HSZ.out _ rfl ?_; intro gg cap w5 hown5 hg5 hat5 hlt5; have HO5 := Lib.hid hown5; have HG5 := Lib.hid hg5; have HAT5 := Lib.hid hat5; have k1 : w5.cell? ⟨b, 1, none⟩ = some (.slice none 0 0) := (HD.out.drew.data_far HG5.out).cell 1; have k2 : w5.frozen? ⟨b, 1, none⟩ = false := (HD.out.drew.data_far HG5.out).frozen 1; clear hown5 hg5 hat5 hlt5) | fail)
                          go_wp2
                          refine Handed.intro (gk - 1) (by have := hne; omega) (hJ _ _ _ ?_)
                          exact ⟨p2 + 1 + x, _, vl, _, ps, ⟨rfl, rfl, rfl, rfl, rfl, rfl⟩, hx, HK2', (HD.out.drew.setData (d := (l.drop (p2 + 1)).take x) (n := x) (by have h := HO5.out; rw [List.nil_append, Nat.zero_add] at h; exact h) hlv.out.symm HG5.out (fun e => (by cases e)) (at_of HAT5.out rfl rfl)), HKn2, only_setb (only_row (only_drewN HB.out 1) HG5.out (fun k e => .inr (own_base HOW.out k e))) 1 _, HM2, Nat.le_trans HPS.out (by have := HPP.out; have := HPP2.out; omega)⟩
                        · subst hvd
                          have HRZ := Lib.hid (reslice_zero HOW.out)
                          have hgb2 : gd < wy.heap.size := Blk.lt hh
                          clear hh
                          go_upto_region 56 with fail
                          go_region_law (first | (refine step_append_lies _ rfl (.tmp 156) (.tmp 160) 22 rfl (w.heap.size) 5 i0 (.int .u8 0) 1 1 Tryd.underlying22 hi hz0 hz1 hz2 rfl (by decide) (.slice (some ⟨gd, 0, none⟩) 0 cd) 0 [] (by rfl) HRZ.out ⟨g, o + (p2 + 1), none⟩ x (c - (p2 + 1)) (u8s ((l.drop (p2 + 1)).take x)) (by rfl) HNL.out HNW.out (u8s_one _) hx0 HB63.out HB47.out HSZ.out _ rfl ?_; intro gg cap w5 hown5 hg5 hat5 hlt5; have HO5 := Lib.hid hown5; have HG5 := Lib.hid hg5; have HAT5 := Lib.hid hat5; have k1 : w5.cell? ⟨b, 1, none⟩ = some (.slice (some ⟨gd, 0, none⟩) st.data.length cd) := (HD.out.drew.data_far HG5.out).cell 1; have k2 : w5.frozen? ⟨b, 1, none⟩ = false := (HD.out.drew.data_far HG5.out).frozen 1; clear hown5 hg5 hat5 hlt5) | fail)
                          go_wp2
                          refine Handed.intro (gk - 1) (by have := hne; omega) (hJ _ _ _ ?_)
                          exact ⟨p2 + 1 + x, _, vl, _, ps, ⟨rfl, rfl, rfl, rfl, rfl, rfl⟩, hx, HK2', (HD.out.drew.setData (d := (l.drop (p2 + 1)).take x) (n := x) (by have h := HO5.out; rw [List.nil_append, Nat.zero_add] at h; exact h) hlv.out.symm HG5.out (fun e => (by cases e)) (at_of HAT5.out rfl rfl)), HKn2, only_setb (only_row (only_drewN HB.out 1) HG5.out (fun k e => .inr (own_base HOW.out k e))) 1 _, HM2, Nat.le_trans HPS.out (by have := HPP.out; have := HPP2.out; omega)⟩
                      · have HX0 := Lib.hid (Nat.eq_zero_of_not_pos hx0)
                        clear hx0
                        by_cases hcp : c = p2 + 1
                        · have hcpT := eq_true hcp
                          clear hcp
                          rcases HOW.out.2 with ⟨hvd, hd0⟩ | ⟨gd, cd, cur, hvd, hgd, hh, hdc, -⟩
                          · subst hvd
                            have HRZ := Lib.hid (World.ownsRow_nil wy (w.heap.size) 5 1)
                            go_upto_region 56 with fail
                            go_region_law (first | (refine step_append_zero rfl (.tmp 156) (.tmp 160) 22 rfl 5 i0 Tryd.underlying22 hi (none) _ 0 0 _ _ (Nat.zero_le _) (by rfl) (by rfl) HX0.out ?_) | fail)
                            go_wp2
                            refine Handed.intro (gk - 1) (by have := hne; omega) (hJ _ _ _ ?_)
                            exact ⟨p2 + 1 + x, _, vl, _, ps, ⟨rfl, rfl, rfl, rfl, rfl, rfl⟩, hx, HK2', HD.out.emptyData HSZ.out (zero_data HX0.out), HKn2, only_drewN (only_alloc (only_setb (only_setb HB.out 1 _) 1 _) _) 1, HM2, Nat.le_trans HPS.out (by have := HPP.out; have := HPP2.out; omega)⟩
                          · subst hvd
                            have HRZ := Lib.hid (reslice_zero HOW.out)
                            have hgb2 : gd < wy.heap.size := Blk.lt hh
                            clear hh
                            go_upto_region 56 with fail
                            go_region_law (first | (refine step_append_zero rfl (.tmp 156) (.tmp 160) 22 rfl 5 i0 Tryd.underlying22 hi (some ⟨gd, 0, none⟩) _ 0 cd _ _ (Nat.zero_le _) (by rfl) (by rfl) HX0.out ?_) | fail)
                            go_wp2
                            refine Handed.intro (gk - 1) (by have := hne; omega) (hJ _ _ _ ?_)
                            exact ⟨p2 + 1 + x, _, vl, _, ps, ⟨rfl, rfl, rfl, rfl, rfl, rfl⟩, hx, HK2', (HD.out.drew.setData (by rw [zero_data HX0.out]; exact HRZ.out) (by rw [zero_data HX0.out]; rfl) (World.grownBy.refl _ _) (fun e => (by cases e)) (fun k e => .inl e)), HKn2, only_setb (only_drewN HB.out 1) 1 _, HM2, Nat.le_trans HPS.out (by have := HPP.out; have := HPP2.out; omega)⟩
                        · skip
                          rcases HOW.out.2 with ⟨hvd, hd0⟩ | ⟨gd, cd, cur, hvd, hgd, hh, hdc, -⟩
                          · subst hvd
                            have HRZ := Lib.hid (World.ownsRow_nil wy (w.heap.size) 5 1)
                            go_upto_region 56 with fail
                            go_region_law (first | (refine step_append_zero rfl (.tmp 156) (.tmp 160) 22 rfl 5 i0 Tryd.underlying22 hi (none) _ 0 0 _ _ (Nat.zero_le _) (by rfl) (by rfl) HX0.out ?_) | fail)
                            go_wp2
                            refine Handed.intro (gk - 1) (by have := hne; omega) (hJ _ _ _ ?_)
                            exact ⟨p2 + 1 + x, _, vl, _, ps, ⟨rfl, rfl, rfl, rfl, rfl, rfl⟩, hx, HK2', HD.out.emptyData HSZ.out (zero_data HX0.out), HKn2, only_drewN (only_alloc (only_setb (only_setb HB.out 1 _) 1 _) _) 1, HM2, Nat.le_trans HPS.out (by have := HPP.out; have := HPP2.out; omega)⟩
                          · subst hvd
                            have HRZ := Lib.hid (reslice_zero HOW.out)
                            have hgb2 : gd < wy.heap.size := Blk.lt hh
                            clear hh
                            go_upto_region 56 with fail
                            go_region_law (first | (refine step_append_zero rfl (.tmp 156) (.tmp 160) 22 rfl 5 i0 Tryd.underlying22 hi (some ⟨gd, 0, none⟩) _ 0 cd _ _ (Nat.zero_le _) (by rfl) (by rfl) HX0.out ?_) | fail)
                            go_wp2
                            refine Handed.intro (gk - 1) (by have := hne; omega) (hJ _ _ _ ?_)
                            exact ⟨p2 + 1 + x, _, vl, _, ps, ⟨rfl, rfl, rfl, rfl, rfl, rfl⟩, hx, HK2', (HD.out.drew.setData (by rw [zero_data HX0.out]; exact HRZ.out) (by rw [zero_data HX0.out]; rfl) (World.grownBy.refl _ _) (fun e => (by cases e)) (fun k e => .inl e)), HKn2, only_setb (only_drewN HB.out 1) 1 _, HM2, Nat.le_trans HPS.out (by have := HPP.out; have := HPP2.out; omega)⟩
                    · have HRN := Lib.hid (bytes_long HM.out HK.out HVI.out HPP.out HPP2.out HV2.out rfl HLN.out hx)
                      by_cases hbig : p2 + 1 + x < 9223372036854775808
                      · have hwr := post_small hbig
                        have hgt := gt_of hx
                        generalize p2 + 1 + x = pe at *
                        go_wp2
                        go_ret
                        exact UnIs.err HB.out HRN.out
                      · obtain ⟨z, hwr, hz⟩ := post_big hbig (Nat.lt_of_not_le hpe) hn2 HX2.out
                        go_wp2
                        go_ret
                        exact UnIs.err HB.out HRN.out
                  · have hnx := hg2.out.next hm1 hs
                    have e1 := low7b m2.toNat hm3
                    have hnl := hnx.low
                    have hnj := hnx.lt9
                    have h64 : acc2 + m2.toNat % 128 * 2 ^ (7 * j2) < 9223372036854775808 := Nat.lt_of_lt_of_le hnl (Nat.le_trans (Nat.pow_le_pow_right (by omega) (show 7 * (j2 + 1) ≤ 63 by omega)) (by decide))
                    have e2 := or64 (7 * j2) acc2 (m2.toNat % 128) hlow2 (by omega)
                    have hq : m2.toNat % 128 < 128 := by omega
                    have HNX := Lib.hid hnx
                    clear hm1 hnx hnl h64 hRx hlow2
                    generalize m2.toNat % 128 = qq at *
                    generalize m2.toNat = mm2 at *
                    generalize acc2 + qq * 2 ^ (7 * j2) = v at *
                    go_wp2
                    refine Handed.intro (wk3 - 1) (by have := HK3.out; omega) (hJ3 _ _ _ ?_)
                    exact ⟨j2 + 1, v, rfl, ⟨rfl, rfl, rfl, rfl, rfl, (show Value.int .i64 ((p2 : Int) + 1) = _ from congrArg (Value.int .i64) (by have := HPP2.out; omega))⟩, rfl, (show Value.int .u64 (7 * (j2 : Int) + 7) = _ from congrArg (Value.int .u64) (by omega)), by have := HK3.out; show _ = _; omega, HNX.out⟩
            · have ek : bits .and .u64 16 7 = 0 := low3 16 (by omega)
              have HRN := Lib.hid (wrong_end HM.out HK.out HVI.out (fun t h1 h2 => by simp [upN, h2]))
              go_wp2_with (first | (go_at_call 27; refine (errors_New _ _).mono ?_; rintro e w2 ⟨rfl, rfl⟩) | fail)
              go_ret
              exact UnIs.err (only_alloc HB.out _) HRN.out
            · have ek : bits .and .u64 18 7 = 2 := low3 18 (by omega)
              go_wp2_with fail
              refine wp_loop_ghost_k (fun k a wy => ∃ j2 acc2 : Nat, wy = wx ∧ Fr 252 a b n (.slice (some ⟨g, o, none⟩) n c) (p + 1 + j2) ∧ a.tmps.getD 17 undef = .int .i64 (acc2 : Int) ∧ a.tmps.getD 18 undef = .int .u64 ((7 * j2 : Nat) : Int) ∧ Hid (k + j2 = 9) ∧ Hid (Prt 9 (l.drop (p + 1)) j2 acc2)) 9 ?start18 ?round18
              case start18 => exact ⟨0, 0, rfl, ⟨rfl, rfl, rfl, rfl, rfl, rfl⟩, rfl, rfl, rfl, Prt.start9 (HKn.out.run.sec9 HVI.out HPP.out (by decide))⟩
              case round18 =>
                intro wk3 a wy hI J3 K3 hJ3 hK3
                obtain ⟨j2, acc2, rfl, hfr, h9, h10, HK3, hg2⟩ := hI
                obtain ⟨p2, hp⟩ : ∃ p2, p + 1 + j2 = p2 := ⟨_, rfl⟩
                rw [hp] at hfr
                have HPP2 := Lib.hid hp
                obtain ⟨u3, rfl⟩ := hfr.open252
                replace h9 : u3 17 = _ := h9
                replace h10 : u3 18 = _ := h10
                rw [h9, h10]
                clear hfr h9 h10 hp
                have hj8 := hg2.out.lt9
                have hlow2 := hg2.out.low
                have hRx := HR.out _ (HB.out)
                by_cases hpe : n ≤ p2
                · have HRN : Hid (R = none) := HM.out.symm.trans (fd_torn (torn2 HVI.out HPP.out (hg2.out.torn (by rw [List.length_drop, HLN.out]; have := HPP2.out; omega))) (by have := HXL.out; omega) HK.out)
                  clear hRx hlow2
                  go_wp2
                  go_ret
                  exact UnIs.err (HB.out) HRN.out
                · obtain ⟨m2, hm1, hm2, hm3⟩ := byte_in hRx HPP2.out (by omega)
                  by_cases hs : m2.toNat < 128
                  · obtain ⟨h1, h2⟩ := hg2.out.last9 hm1 hs
                    have e1 := low7b m2.toNat hm3
                    rw [Nat.mod_eq_of_lt hs] at e1
                    have e2 := or64 (7 * j2) acc2 m2.toNat hlow2 (by omega)
                    have HV2 := Lib.hid h1
                    have HX2 := Lib.hid h2
                    clear hm1 h1 h2 hRx hlow2
                    generalize m2.toNat = mm2 at *
                    generalize acc2 + mm2 * 2 ^ (7 * j2) = x at *
                    by_cases hx : p2 + 1 + x ≤ n
                    · have hxn : x ≤ n := Nat.le_trans (Nat.le_add_left _ _) hx
                      have hlv : ((l.drop (p2 + 1)).take x).length = x := take_len HLN.out hx
                      have hpt := bytes_pt HVI.out HPP.out HPP2.out HV2.out (key := 18) rfl HLN.out hx
                      have HVAL : Hid (OurL ((l.drop (p2 + 1)).take x)) := (HKS.out _ hpt).1 rfl
                      have hpn : p2 + 1 ≤ n := Nat.succ_le_of_lt (Nat.lt_of_not_le hpe)
                      have hsl := head_slice (cut_slice (HR.out _ HB.out) hpn hnc) (le_of_sum hx)
                      have HBAD : Hid (linkOf ((l.drop (p2 + 1)).take x) = none → R = none) := fun e => bytes_bad HM.out HK.out HVI.out HPP.out HPP2.out HV2.out rfl HLN.out hx (upN_none e)
                      have HEND : Hid (∀ lk, linkOf ((l.drop (p2 + 1)).take x) = some lk → 0 < gk ∧ fd upN (gk - 1) { st with links := st.links ++ [lk] } (l.drop (p2 + 1 + x)) = R ∧ OurN (l.drop (p2 + 1 + x)) ∧ (l.drop (p2 + 1 + x)).length ≤ gk - 1) := fun lk e => bytes_end (P := PN) (O := OurN) HM.out HK.out HVI.out HPP.out HPP2.out HV2.out rfl HLN.out hx HKS.out (upN_some e)
                      obtain ⟨i1, hj, hj0, hj1, hj2⟩ := info_parts infoPL
                      have hlt2 : i < n := hlt
                      have HB63 := Lib.hid (ps_max HPS.out hlt2 hn2)
                      have HB47 := Lib.hid (ps_47 HPS.out hlt2 hn2)
                      have HOW := Lib.hid (HD.out.row.alloc (.cells #[.slice none 0 0, .pointer none, .pointer none, .slice none 0 0, .int .i32 0] 68))
                      have HLO : Hid (w.heap.size ≤ (wy.alloc (.cells #[.slice none 0 0, .pointer none, .pointer none, .slice none 0 0, .int .i32 0] 68)).heap.size) := Nat.le_trans HSZ.out (by simp)
                      obtain ⟨Ab, cb, hvb, -, -⟩ := own_shape HOW.out
                      subst hvb
                      have hps : ps.length ≤ 1000000 := Nat.le_trans HPS.out (by omega)
                      have HPSX := Lib.hid HPS.out
                      have hsb1 := sb1 hx hnc
                      have hsb2 := sb2 p2 x
                      have hsb3 := sb3 p2 x
                      have hsb4 := sb4 p2 x
                      have hxc : x ≤ c - (p2 + 1) := by omega
                      have hcc : c - (p2 + 1) ≤ 9223372036854775807 := by omega
                      have hx6 : x ≤ 1000000 := Nat.le_trans hxn hn2
                      by_cases hcp : c = p2 + 1
                      · rw [if_pos hcp] at hsl
                        have HSL := Lib.hid hsl
                        have hcpT := eq_true hcp
                        clear hcp
                        have HU := Lib.hid (fun (W : World) (q : Nat) h1 h2 h3 h4 h5 => unmarshalL_any q (some ⟨g, o, none⟩) x (c - (p2 + 1)) ((l.drop (p2 + 1)).take x) W a0 a1 a2 h1 h2 hxc hcc hx6 HVAL.out h3 h4 h5)
                        clear hsl
                        obtain ⟨V, hV⟩ : ∃ V, (l.drop (p2 + 1)).take x = V := ⟨_, rfl⟩
                        rw [hV] at HU HBAD HEND HSL
                        have HVV := Lib.hid hV
                        clear hV hlv hpt HVAL
                        go_upto_region 82 with (first | (at_builtin; go_loud (refine wpList_append_oneH rfl (.tmp 220) (.tmp 223) 43 rfl w.heap.size i1 (.pointer none) 8 Tryd.underlying43 hj hj0 hj1 hj2 rfl _ _ _ rfl HOW.out (World.size_alloc _ _) rfl rfl HB63.out HB47.out HLO.out ?_; rintro v2 w2 hown2 hg2 hat2 hne2; obtain ⟨g9, c9, rfl, hnc9, hbg9, hlt9⟩ := own_form hown2 (Nat.succ_pos _); have HO2 := Lib.hid hown2; have HG2 := Lib.hid hg2; have HAT2 := Lib.hid hat2; have k1 : w2.cell? ⟨b, 0, none⟩ = some (.slice Ab ps.length cb) := ((HD.out.alloc _).row_far HG2.out).cell 0; have k2 : w2.frozen? ⟨b, 0, none⟩ = false := ((HD.out.alloc _).row_far HG2.out).frozen 0; clear hown2 hg2 hat2 hne2)) | fail)
                        have HBl := Lib.hid (((HD.out.alloc (.cells #[.slice none 0 0, .pointer none, .pointer none, .slice none 0 0, .int .i32 0] 68)).row_far HG2.out).set_ 0 (.slice (some ⟨g9, 0, none⟩) (ps.length + 1) c9))
                        have HQ0 := Lib.hid ((Blk.new wy 68 #[.slice none 0 0, .pointer none, .pointer none, .slice none 0 0, .int .i32 0]).grown HG2.out (fun e => (own_blk_ne HOW.out (Blk.new wy 68 #[.slice none 0 0, .pointer none, .pointer none, .slice none 0 0, .int .i32 0]) (by decide)) e.symm))
                        have HQB := Lib.hid (HQ0.out.far (p := ⟨b, 0, none⟩) (by show wy.heap.size ≠ b; have := HD.out.blk.lt; omega) (.slice (some ⟨g9, 0, none⟩) (ps.length + 1) c9))
                        have HQ9 : Hid (g9 ≠ wy.heap.size) := fun e => own_blk_ne HO2.out HQ0.out (by decide) (by show some g9 = _; rw [e])
                        have HL9 : Hid (g9 < (w2.setCell ⟨b, 0, none⟩ (.slice (some ⟨g9, 0, none⟩) (ps.length + 1) c9)).drew.heap.size) := by show g9 < _; simpa [World.setCell, World.drew] using hlt9
                        have HPQ : Hid ((w2.setCell ⟨b, 0, none⟩ (.slice (some ⟨g9, 0, none⟩) (ps.length + 1) c9)).cell? ⟨g9, ps.length, none⟩ = some (.pointer (some ⟨wy.heap.size, 0, none⟩))) := by
                          have h := own_cell HO2.out (g := g9) rfl ps.length (.pointer (some ⟨wy.heap.size, 0, none⟩)) (by rw [List.getElem?_append_right (by rw [ptrs_length]; exact Nat.le_refl _), ptrs_length, Nat.sub_self]; rfl)
                          exact (World.cell?_of_block (Below.heap_setCell w2 ⟨b, 0, none⟩ _ g9 (by show g9 ≠ b; have := HBLT.out; omega))).trans h
                        have HGF : Hid (w.grownBy (w2.setCell ⟨b, 0, none⟩ (.slice (some ⟨g9, 0, none⟩) (ps.length + 1) c9)).drew (some b)) := only_drew (only_setb (only_row (only_alloc HB.out _) HG2.out (fun k e => .inr (own_base HOW.out k e))) 0 _)
                        have hrv := (HR.out _ HGF.out).more HGF.out.size
                        have hs3 := head_slice (cut_slice hrv hpn hnc) (le_of_sum hx)
                        rw [if_pos (of_eq_true hcpT)] at hs3
                        rw [HVV.out] at hs3
                        have HS3 := Lib.hid hs3
                        have HGQ : Hid (∀ ad : Addr, ((some ⟨g, o, none⟩) : Option Addr) = some ad → ad.block ≠ wy.heap.size) := fun ad e => by
                          obtain rfl := Option.some.inj e
                          show g ≠ wy.heap.size
                          have := HSZ.out
                          omega
                        have H4Q : Hid (4 ≤ wy.heap.size) := by have := HD.out.blk.lt; show _ ≤ _; omega
                        have HXN := Lib.hid hx
                        clear hrv hs3
                        obtain ⟨W3, hW3⟩ : ∃ W3, w2.setCell ⟨b, 0, none⟩ (.slice (some ⟨g9, 0, none⟩) (ps.length + 1) c9) = W3 := ⟨_, rfl⟩
                        rw [hW3] at HBl HQB HPQ HGF HS3 HL9 ⊢
                        have HW3 := Lib.hid hW3
                        have q0 := HBl.out.cell 0
                        have q1 := HPQ.out
                        have hix1 : (0 : Int) ≤ (ps.length : Int) := by omega
                        have hix2 : (ps.length : Int) < (ps.length : Int) + 1 := by omega
                        have hix3 : IntKind.i64.wrap ((ps.length : Int) + 1 - 1) = (ps.length : Int) := by rw [show (ps.length : Int) + 1 - 1 = (ps.length : Int) by omega]; exact IntWalk.i64_in _ ⟨by omega, by omega⟩
                        have hix4 : IntKind.i64.wrap (ps.length : Int) = (ps.length : Int) := IntWalk.i64_in _ ⟨by omega, by omega⟩
                        clear k1 k2 hW3
                        cases hlk : linkOf V with
                        | none =>
                          have HU2 : Hid (Calls Tryd.prog 28 #[.pointer (some ⟨wy.heap.size, 0, none⟩), .slice (some ⟨g, o, none⟩) x (c - (p2 + 1))] W3.drew fun e w' => W3.drew.grownBy w' (some wy.heap.size) ∧ ∃ a, e = .returned (.iface 78 (.pointer (some a)))) := (HU.out _ _ HS3.out HGQ.out (HE.out _ HGF.out) H4Q.out HQB.out.drew).mono (by
                            rintro e w' ⟨h1, ⟨-, h2⟩ | ⟨lk, vh, vn, vs, h2, -⟩⟩
                            · exact ⟨h1, h2⟩
                            · rw [hlk] at h2; cases h2)
                          have HRN := Lib.hid (HBAD.out hlk)
                          clear HU hlk
                          go_region_held3 (fun w' => w'.cell? ⟨b, 0, none⟩ = some (.slice (some ⟨g9, 0, none⟩) (ps.length + 1) c9) ∧ w'.cell? ⟨g9, ps.length, none⟩ = some (.pointer (some ⟨wy.heap.size, 0, none⟩))) (exact ⟨q0, q1⟩) (first | (go_at_call 28; refine HU2.out.mono ?_; clear HU2; rintro e w4 ⟨hg4, a4, rfl⟩; have HG4 := Lib.hid hg4; have hq0 : w4.cell? ⟨b, 0, none⟩ = some (.slice (some ⟨g9, 0, none⟩) (ps.length + 1) c9) := (HBl.out.drew.grown HG4.out (fun e => by injection e; have := HD.out.blk.lt; omega)).cell 0; have hq1 : w4.cell? ⟨g9, ps.length, none⟩ = some (.pointer (some ⟨wy.heap.size, 0, none⟩)) := (World.cell?_of_block (HG4.out.block g9 HL9.out (fun e => by injection e with e; exact HQ9.out e))).trans HPQ.out; clear q0 q1; have q0 := hq0; have q1 := hq1; clear hq0 hq1; clear hg4) | fail)
                          go_wp2
                          go_ret
                          exact UnIs.err (only_row HGF.out HG4.out (fun k e => .inr (by injection e with e; rw [← e]; exact HSZ.out))) HRN.out
                        | some lk =>
                          have HU2 : Hid (Calls Tryd.prog 28 #[.pointer (some ⟨wy.heap.size, 0, none⟩), .slice (some ⟨g, o, none⟩) x (c - (p2 + 1))] W3.drew fun e w' => W3.drew.grownBy w' (some wy.heap.size) ∧ e = .returned .nilIface ∧ ∃ vh vn vs, LRep w' wy.heap.size W3.drew.heap.size lk vh vn vs) := (HU.out _ _ HS3.out HGQ.out (HE.out _ HGF.out) H4Q.out HQB.out.drew).mono (by
                            rintro e w' ⟨h1, ⟨h2, -⟩ | ⟨lk', vh, vn, vs, h2, h3, h4⟩⟩
                            · rw [hlk] at h2; cases h2
                            · rw [hlk] at h2
                              obtain rfl := Option.some.inj h2
                              exact ⟨h1, h3, vh, vn, vs, h4⟩)
                          have HF := Lib.hid (HEND.out lk hlk)
                          clear HU hlk
                          go_region_held3 (fun w' => w'.cell? ⟨b, 0, none⟩ = some (.slice (some ⟨g9, 0, none⟩) (ps.length + 1) c9) ∧ w'.cell? ⟨g9, ps.length, none⟩ = some (.pointer (some ⟨wy.heap.size, 0, none⟩))) (exact ⟨q0, q1⟩) (first | (go_at_call 28; refine HU2.out.mono ?_; clear HU2; rintro e w4 ⟨hg4, rfl, vh, vn, vs, hrep⟩; have HG4 := Lib.hid hg4; have HREP := Lib.hid hrep; have hq0 : w4.cell? ⟨b, 0, none⟩ = some (.slice (some ⟨g9, 0, none⟩) (ps.length + 1) c9) := (HBl.out.drew.grown HG4.out (fun e => by injection e; have := HD.out.blk.lt; omega)).cell 0; have hq1 : w4.cell? ⟨g9, ps.length, none⟩ = some (.pointer (some ⟨wy.heap.size, 0, none⟩)) := (World.cell?_of_block (HG4.out.block g9 HL9.out (fun e => by injection e with e; exact HQ9.out e))).trans HPQ.out; clear q0 q1; have q0 := hq0; have q1 := hq1; clear hq0 hq1; clear hg4 hrep) | fail)
                          go_wp2
                          refine Handed.intro (gk - 1) (by have := HF.out.1; omega) (hJ _ _ _ ?_)
                          exact ⟨p2 + 1 + x, _, _, _, _, ⟨rfl, rfl, rfl, rfl, rfl, rfl⟩, HXN.out, HF.out.2.2.2, HD.out.addLink HSZ.out HO2.out HG2.out HAT2.out (by rw [← HW3.out]) HG4.out HREP.out, HF.out.2.2.1, only_row HGF.out HG4.out (fun k e => .inr (by injection e with e; rw [← e]; exact HSZ.out)), HF.out.2.1, by rw [List.length_append]; have := HPSX.out; have := HPP.out; have := HPP2.out; show ps.length + 1 ≤ _; omega⟩
                      · rw [if_neg hcp] at hsl
                        have HSL := Lib.hid hsl
                        have HU := Lib.hid (fun (W : World) (q : Nat) h1 h2 h3 h4 h5 => unmarshalL_any q (some ⟨g, o + (p2 + 1), none⟩) x (c - (p2 + 1)) ((l.drop (p2 + 1)).take x) W a0 a1 a2 h1 h2 hxc hcc hx6 HVAL.out h3 h4 h5)
                        clear hsl
                        obtain ⟨V, hV⟩ : ∃ V, (l.drop (p2 + 1)).take x = V := ⟨_, rfl⟩
                        rw [hV] at HU HBAD HEND HSL
                        have HVV := Lib.hid hV
                        clear hV hlv hpt HVAL
                        go_upto_region 82 with (first | (at_builtin; go_loud (refine wpList_append_oneH rfl (.tmp 220) (.tmp 223) 43 rfl w.heap.size i1 (.pointer none) 8 Tryd.underlying43 hj hj0 hj1 hj2 rfl _ _ _ rfl HOW.out (World.size_alloc _ _) rfl rfl HB63.out HB47.out HLO.out ?_; rintro v2 w2 hown2 hg2 hat2 hne2; obtain ⟨g9, c9, rfl, hnc9, hbg9, hlt9⟩ := own_form hown2 (Nat.succ_pos _); have HO2 := Lib.hid hown2; have HG2 := Lib.hid hg2; have HAT2 := Lib.hid hat2; have k1 : w2.cell? ⟨b, 0, none⟩ = some (.slice Ab ps.length cb) := ((HD.out.alloc _).row_far HG2.out).cell 0; have k2 : w2.frozen? ⟨b, 0, none⟩ = false := ((HD.out.alloc _).row_far HG2.out).frozen 0; clear hown2 hg2 hat2 hne2)) | fail)
                        have HBl := Lib.hid (((HD.out.alloc (.cells #[.slice none 0 0, .pointer none, .pointer none, .slice none 0 0, .int .i32 0] 68)).row_far HG2.out).set_ 0 (.slice (some ⟨g9, 0, none⟩) (ps.length + 1) c9))
                        have HQ0 := Lib.hid ((Blk.new wy 68 #[.slice none 0 0, .pointer none, .pointer none, .slice none 0 0, .int .i32 0]).grown HG2.out (fun e => (own_blk_ne HOW.out (Blk.new wy 68 #[.slice none 0 0, .pointer none, .pointer none, .slice none 0 0, .int .i32 0]) (by decide)) e.symm))
                        have HQB := Lib.hid (HQ0.out.far (p := ⟨b, 0, none⟩) (by show wy.heap.size ≠ b; have := HD.out.blk.lt; omega) (.slice (some ⟨g9, 0, none⟩) (ps.length + 1) c9))
                        have HQ9 : Hid (g9 ≠ wy.heap.size) := fun e => own_blk_ne HO2.out HQ0.out (by decide) (by show some g9 = _; rw [e])
                        have HL9 : Hid (g9 < (w2.setCell ⟨b, 0, none⟩ (.slice (some ⟨g9, 0, none⟩) (ps.length + 1) c9)).drew.heap.size) := by show g9 < _; simpa [World.setCell, World.drew] using hlt9
                        have HPQ : Hid ((w2.setCell ⟨b, 0, none⟩ (.slice (some ⟨g9, 0, none⟩) (ps.length + 1) c9)).cell? ⟨g9, ps.length, none⟩ = some (.pointer (some ⟨wy.heap.size, 0, none⟩))) := by
                          have h := own_cell HO2.out (g := g9) rfl ps.length (.pointer (some ⟨wy.heap.size, 0, none⟩)) (by rw [List.getElem?_append_right (by rw [ptrs_length]; exact Nat.le_refl _), ptrs_length, Nat.sub_self]; rfl)
                          exact (World.cell?_of_block (Below.heap_setCell w2 ⟨b, 0, none⟩ _ g9 (by show g9 ≠ b; have := HBLT.out; omega))).trans h
                        have HGF : Hid (w.grownBy (w2.setCell ⟨b, 0, none⟩ (.slice (some ⟨g9, 0, none⟩) (ps.length + 1) c9)).drew (some b)) := only_drew (only_setb (only_row (only_alloc HB.out _) HG2.out (fun k e => .inr (own_base HOW.out k e))) 0 _)
                        have hrv := (HR.out _ HGF.out).more HGF.out.size
                        have hs3 := head_slice (cut_slice hrv hpn hnc) (le_of_sum hx)
                        rw [if_neg hcp] at hs3
                        rw [HVV.out] at hs3
                        have HS3 := Lib.hid hs3
                        have HGQ : Hid (∀ ad : Addr, ((some ⟨g, o + (p2 + 1), none⟩) : Option Addr) = some ad → ad.block ≠ wy.heap.size) := fun ad e => by
                          obtain rfl := Option.some.inj e
                          show g ≠ wy.heap.size
                          have := HSZ.out
                          omega
                        have H4Q : Hid (4 ≤ wy.heap.size) := by have := HD.out.blk.lt; show _ ≤ _; omega
                        have HXN := Lib.hid hx
                        clear hrv hs3
                        obtain ⟨W3, hW3⟩ : ∃ W3, w2.setCell ⟨b, 0, none⟩ (.slice (some ⟨g9, 0, none⟩) (ps.length + 1) c9) = W3 := ⟨_, rfl⟩
                        rw [hW3] at HBl HQB HPQ HGF HS3 HL9 ⊢
                        have HW3 := Lib.hid hW3
                        have q0 := HBl.out.cell 0
                        have q1 := HPQ.out
                        have hix1 : (0 : Int) ≤ (ps.length : Int) := by omega
                        have hix2 : (ps.length : Int) < (ps.length : Int) + 1 := by omega
                        have hix3 : IntKind.i64.wrap ((ps.length : Int) + 1 - 1) = (ps.length : Int) := by rw [show (ps.length : Int) + 1 - 1 = (ps.length : Int) by omega]; exact IntWalk.i64_in _ ⟨by omega, by omega⟩
                        have hix4 : IntKind.i64.wrap (ps.length : Int) = (ps.length : Int) := IntWalk.i64_in _ ⟨by omega, by omega⟩
                        clear k1 k2 hW3
                        cases hlk : linkOf V with
                        | none =>
                          have HU2 : Hid (Calls Tryd.prog 28 #[.pointer (some ⟨wy.heap.size, 0, none⟩), .slice (some ⟨g, o + (p2 + 1), none⟩) x (c - (p2 + 1))] W3.drew fun e w' => W3.drew.grownBy w' (some wy.heap.size) ∧ ∃ a, e = .returned (.iface 78 (.pointer (some a)))) := (HU.out _ _ HS3.out HGQ.out (HE.out _ HGF.out) H4Q.out HQB.out.drew).mono (by
                            rintro e w' ⟨h1, ⟨-, h2⟩ | ⟨lk, vh, vn, vs, h2, -⟩⟩
                            · exact ⟨h1, h2⟩
                            · rw [hlk] at h2; cases h2)
                          have HRN := Lib.hid (HBAD.out hlk)
                          clear HU hlk
                          go_region_held3 (fun w' => w'.cell? ⟨b, 0, none⟩ = some (.slice (some ⟨g9, 0, none⟩) (ps.length + 1) c9) ∧ w'.cell? ⟨g9, ps.length, none⟩ = some (.pointer (some ⟨wy.heap.size, 0, none⟩))) (exact ⟨q0, q1⟩) (first | (go_at_call 28; refine HU2.out.mono ?_; clear HU2; rintro e w4 ⟨hg4, a4, rfl⟩; have HG4 := Lib.hid hg4; have hq0 : w4.cell? ⟨b, 0, none⟩ = some (.slice (some ⟨g9, 0, none⟩) (ps.length + 1) c9) := (HBl.out.drew.grown HG4.out (fun e => by injection e; have := HD.out.blk.lt; omega)).cell 0; have hq1 : w4.cell? ⟨g9, ps.length, none⟩ = some (.pointer (some ⟨wy.heap.size, 0, none⟩)) := (World.cell?_of_block (HG4.out.block g9 HL9.out (fun e => by injection e with e; exact HQ9.out e))).trans HPQ.out; clear q0 q1; have q0 := hq0; have q1 := hq1; clear hq0 hq1; clear hg4) | fail)
                          go_wp2
                          go_ret
                          exact UnIs.err (only_row HGF.out HG4.out (fun k e => .inr (by injection e with e; rw [← e]; exact HSZ.out))) HRN.out
                        | some lk =>
                          have HU2 : Hid (Calls Tryd.prog 28 #[.pointer (some ⟨wy.heap.size, 0, none⟩), .slice (some ⟨g, o + (p2 + 1), none⟩) x (c - (p2 + 1))] W3.drew fun e w' => W3.drew.grownBy w' (some wy.heap.size) ∧ e = .returned .nilIface ∧ ∃ vh vn vs, LRep w' wy.heap.size W3.drew.heap.size lk vh vn vs) := (HU.out _ _ HS3.out HGQ.out (HE.out _ HGF.out) H4Q.out HQB.out.drew).mono (by
                            rintro e w' ⟨h1, ⟨h2, -⟩ | ⟨lk', vh, vn, vs, h2, h3, h4⟩⟩
                            · rw [hlk] at h2; cases h2
                            · rw [hlk] at h2
                              obtain rfl := Option.some.inj h2
                              exact ⟨h1, h3, vh, vn, vs, h4⟩)
                          have HF := Lib.hid (HEND.out lk hlk)
                          clear HU hlk
                          go_region_held3 (fun w' => w'.cell? ⟨b, 0, none⟩ = some (.slice (some ⟨g9, 0, none⟩) (ps.length + 1) c9) ∧ w'.cell? ⟨g9, ps.length, none⟩ = some (.pointer (some ⟨wy.heap.size, 0, none⟩))) (exact ⟨q0, q1⟩) (first | (go_at_call 28; refine HU2.out.mono ?_; clear HU2; rintro e w4 ⟨hg4, rfl, vh, vn, vs, hrep⟩; have HG4 := Lib.hid hg4; have HREP := Lib.hid hrep; have hq0 : w4.cell? ⟨b, 0, none⟩ = some (.slice (some ⟨g9, 0, none⟩) (ps.length + 1) c9) := (HBl.out.drew.grown HG4.out (fun e => by injection e; have := HD.out.blk.lt; omega)).cell 0; have hq1 : w4.cell? ⟨g9, ps.length, none⟩ = some (.pointer (some ⟨wy.heap.size, 0, none⟩)) := (World.cell?_of_block (HG4.out.block g9 HL9.out (fun e => by injection e with e; exact HQ9.out e))).trans HPQ.out; clear q0 q1; have q0 := hq0; have q1 := hq1; clear hq0 hq1; clear hg4 hrep) | fail)
                          go_wp2
                          refine Handed.intro (gk - 1) (by have := HF.out.1; omega) (hJ _ _ _ ?_)
                          exact ⟨p2 + 1 + x, _, _, _, _, ⟨rfl, rfl, rfl, rfl, rfl, rfl⟩, HXN.out, HF.out.2.2.2, HD.out.addLink HSZ.out HO2.out HG2.out HAT2.out (by rw [← HW3.out]) HG4.out HREP.out, HF.out.2.2.1, only_row HGF.out HG4.out (fun k e => .inr (by injection e with e; rw [← e]; exact HSZ.out)), HF.out.2.1, by rw [List.length_append]; have := HPSX.out; have := HPP.out; have := HPP2.out; show ps.length + 1 ≤ _; omega⟩
                    · have HRN := Lib.hid (bytes_long HM.out HK.out HVI.out HPP.out HPP2.out HV2.out rfl HLN.out hx)
                      by_cases hbig : p2 + 1 + x < 9223372036854775808
                      · have hwr := post_small hbig
                        have hgt := gt_of hx
                        generalize p2 + 1 + x = pe at *
                        go_wp2
                        go_ret
                        exact UnIs.err HB.out HRN.out
                      · obtain ⟨z, hwr, hz⟩ := post_big hbig (Nat.lt_of_not_le hpe) hn2 HX2.out
                        go_wp2
                        go_ret
                        exact UnIs.err HB.out HRN.out
                  · have hnx := hg2.out.next hm1 hs
                    have e1 := low7b m2.toNat hm3
                    have hnl := hnx.low
                    have hnj := hnx.lt9
                    have h64 : acc2 + m2.toNat % 128 * 2 ^ (7 * j2) < 9223372036854775808 := Nat.lt_of_lt_of_le hnl (Nat.le_trans (Nat.pow_le_pow_right (by omega) (show 7 * (j2 + 1) ≤ 63 by omega)) (by decide))
                    have e2 := or64 (7 * j2) acc2 (m2.toNat % 128) hlow2 (by omega)
                    have hq : m2.toNat % 128 < 128 := by omega
                    have HNX := Lib.hid hnx
                    clear hm1 hnx hnl h64 hRx hlow2
                    generalize m2.toNat % 128 = qq at *
                    generalize m2.toNat = mm2 at *
                    generalize acc2 + qq * 2 ^ (7 * j2) = v at *
                    go_wp2
                    refine Handed.intro (wk3 - 1) (by have := HK3.out; omega) (hJ3 _ _ _ ?_)
                    exact ⟨j2 + 1, v, rfl, ⟨rfl, rfl, rfl, rfl, rfl, (show Value.int .i64 ((p2 : Int) + 1) = _ from congrArg (Value.int .i64) (by have := HPP2.out; omega))⟩, rfl, (show Value.int .u64 (7 * (j2 : Int) + 7) = _ from congrArg (Value.int .u64) (by omega)), by have := HK3.out; show _ = _; omega, HNX.out⟩
          · have hnx := hg.out.next hm1 hs
            have e1 := low7b m.toNat hm3
            have hnl := hnx.low
            have hnj := hnx.lt9
            have h64 : acc + m.toNat % 128 * 2 ^ (7 * j) < 18446744073709551616 := Nat.lt_of_lt_of_le hnl (Nat.le_trans (Nat.pow_le_pow_right (by omega) (show 7 * (j + 1) ≤ 63 by omega)) (by decide))
            have e2 := or_join (7 * j) acc (m.toNat % 128) hg.out.low h64
            have hq : m.toNat % 128 < 128 := by omega
            have HNX := Lib.hid hnx
            clear hm1 hnx hnl h64 hRx
            generalize m.toNat % 128 = q at *
            generalize m.toNat = mm at *
            generalize acc + q * 2 ^ (7 * j) = v at *
            go_wp2
            refine Handed.intro (wk - 1) (by have := HK2.out; omega) (hJ2 _ _ _ ?_)
            exact ⟨rfl, j + 1, v, ⟨rfl, rfl, rfl, rfl, rfl, by have := HPP.out; show Value.int .i64 _ = _; congr 1; omega⟩, rfl, (show Value.int .u64 (7 * (j : Int) + 7) = _ from congrArg (Value.int .u64) (by omega)), by have := HK2.out; show _ = _; omega, HNX.out⟩
end Go.Proofs.YthgbhaackihbjaaDoor
