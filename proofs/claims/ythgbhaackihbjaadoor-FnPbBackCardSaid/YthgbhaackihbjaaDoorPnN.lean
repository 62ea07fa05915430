/- What the reference reads in a node's message: spec.PbOf. -/
import Derived.Test.YthgbhaackihbjaaDoorPnM
import Derived.Test.YthgbhaackihbjaaDoorPnW
namespace Go.Proofs.YthgbhaackihbjaaDoor
open Go.RowKit

/-- The local struct, the result's cell, the rows. -/
structure MRepN (w : World) (lo bx br : Nat) (st : PNd) (vd vl : Value) (vs : List Value) : Prop where
  blk : Blk w bx 28 #[.bool st.has, vd, vl]
  res : Blk w br 28 #[.bool false, .slice none 0 0, .slice none 0 0]
  data : w.ownsRow lo 5 1 vd st.data.length (u8s st.data)
  links : w.ownsRow lo 53 6 vl st.links.length vs
  lv : LVo w lo st.links vs
  hx : bx < lo
  hr : br < bx
section
variable {w w' : World} {lo bx br : Nat} {st : PNd} {vd vl : Value} {vs : List Value}
theorem MRepN.drewN (h : MRepN w lo bx br st vd vl vs) (j : Nat) : MRepN (w.drewN j) lo bx br st vd vl vs := ⟨h.blk, h.res, h.data, h.links, h.lv.below (below_drewN (Below.refl _ w) j), h.hx, h.hr⟩
theorem MRepN.below (h : MRepN w lo bx br st vd vl vs) (hb : Below w.heap.size w w') : MRepN w' lo bx br st vd vl vs :=
  ⟨h.blk.below hb h.blk.lt, h.res.below hb h.res.lt, own_below h.data hb, own_below h.links hb, h.lv.below hb, h.hx, h.hr⟩
theorem MRepN.setData (h : MRepN w lo bx br st vd vl vs) (hb : Below w.heap.size w w') {d : List UInt8} {v : Value} {n : Nat} (hown : w'.ownsRow lo 5 1 v n (u8s d)) (hn : n = d.length) : MRepN ((w'.setCell ⟨bx, 0, none⟩ (.bool true)).setCell ⟨bx, 1, none⟩ v) lo bx br { st with has := true, data := d } v vl vs := by
  subst hn
  have h1 := h.hx
  have h2 := h.hr
  have k := h.below hb
  exact ⟨(k.blk.set_ 0 _).set_ 1 _, (k.res.far (p := ⟨bx, 0, none⟩) (by show br ≠ bx; omega) _).far (by show br ≠ bx; omega) _, own_far (own_far hown _ (fun e => by have := own_base hown bx e; omega)) _ (fun e => by have := own_base hown bx e; omega), own_far (own_far k.links _ (fun e => by have := own_base k.links bx e; omega)) _ (fun e => by have := own_base k.links bx e; omega), (k.lv.far h1 0 _).far h1 1 _, h1, h2⟩
theorem MRepN.far_row (h : MRepN w lo bx br st vd vl vs) (hg : w.grownBy w' vl.ownBlock) : Blk w' bx 28 #[.bool st.has, vd, vl] ∧ Blk w' br 28 #[.bool false, .slice none 0 0, .slice none 0 0] ∧ w'.ownsRow lo 5 1 vd st.data.length (u8s st.data) ∧ LVo w' lo st.links vs :=
  ⟨h.blk.grown hg fun e => own_blk_ne h.links h.blk (by decide) e.symm, h.res.grown hg fun e => own_blk_ne h.links h.res (by decide) e.symm, h.data.kept hg (own_own_ne h.data h.links (by decide)), h.lv.kept hg fun _ _ _ _ ho => own_own_ne ho h.links (by decide)⟩
theorem MRepN.addLink {w3 w4 : World} {l : PLk} {A : Option Addr} {c : Nat} {vl' : Value} (h : MRepN w lo bx br st vd vl vs) (hb : Below w.heap.size w w3) (hh : w3.ownsRow lo 5 1 (.slice A l.hash.length c) l.hash.length (u8s l.hash)) (hs : l.size < 18446744073709551616)
    (hown : w4.ownsRow lo 53 6 vl' (st.links.length + 1) (vs ++ cellsL l (.slice A l.hash.length c))) (hg : w3.grownBy w4 vl.ownBlock) : MRepN (w4.setCell ⟨bx, 2, none⟩ vl') lo bx br { st with links := st.links ++ [l] } vd vl' (vs ++ cellsL l (.slice A l.hash.length c)) := by
  have h1 := h.hx
  have h2 := h.hr
  have k := h.below hb
  obtain ⟨a, b, d, e⟩ := k.far_row hg
  have hh4 := hh.kept hg (own_own_ne hh k.links (by decide))
  refine ⟨a.set_ 2 _, b.far (by show br ≠ bx; omega) _, own_far d _ (fun e => by have := own_base d bx e; omega), ?_, (e.snoc hh4 hs).far h1 2 _, h1, h2⟩
  rw [List.length_append]
  exact own_far hown _ (fun e => by have := own_base hown bx e; omega)
end
/-- What PbOf hands back. -/
structure NoIs (w : World) (R : Option PNd) (e : Ending) (w' : World) : Prop where
  below : Below w.heap.size w w'
  ret : (∃ st A n c A2 n2 c2, R = some st ∧ e = .returned (.tuple #[.agg #[.bool st.has, .slice A n c, .slice A2 n2 c2], .bool true]) ∧ NodeArg w' w'.heap.size st (.agg #[.bool st.has, .slice A n c, .slice A2 n2 c2])) ∨
    (R = none ∧ e = .returned (.tuple #[.agg #[.bool false, .slice none 0 0, .slice none 0 0], .bool false]))
/-- The result's cell, written. -/
theorem three_set {w : World} {g : Nat} {c0 c1 c2 : Value} (h : Blk w g 28 #[c0, c1, c2]) (v0 v1 v2 : Value) :
    Blk (((w.setCell ⟨g, 0, none⟩ v0).setCell ⟨g, 1, none⟩ v1).setCell ⟨g, 2, none⟩ v2) g 28 #[v0, v1, v2] := ((h.set_ 0 v0).set_ 1 v1).set_ 2 v2
theorem three_below {B : Nat} {a w : World} {g : Nat} (h : Below B a w) (hg : B ≤ g) (v0 v1 v2 : Value) :
    Below B a (((w.setCell ⟨g, 0, none⟩ v0).setCell ⟨g, 1, none⟩ v1).setCell ⟨g, 2, none⟩ v2) := ((h.setCell hg v0).setCell hg v1).setCell hg v2
theorem MRepN.arg {w : World} {lo bx br : Nat} {st : PNd} {A A2 : Option Addr} {n c n2 c2 : Nat} {vs : List Value} (h : MRepN w lo bx br st (.slice A n c) (.slice A2 n2 c2) vs) (hn : st.data.length = n) (hn2 : st.links.length = n2) (hm : n2 ≤ maxLen) (v0 v1 v2 : Value) :
    NodeArg (((w.setCell ⟨br, 0, none⟩ v0).setCell ⟨br, 1, none⟩ v1).setCell ⟨br, 2, none⟩ v2) (((w.setCell ⟨br, 0, none⟩ v0).setCell ⟨br, 1, none⟩ v1).setCell ⟨br, 2, none⟩ v2).heap.size st (.agg #[.bool st.has, .slice A n c, .slice A2 n2 c2]) := by
  have h1 := h.hx
  have h2 := h.hr
  have hbr : br < lo := by omega
  have hd := h.data
  have hl := h.links
  rw [hn] at hd
  rw [hn2] at hl
  have d3 := own_far (own_far (own_far hd (p := ⟨br, 0, none⟩) v0 (fun e => by have := own_base hd br e; omega)) (p := ⟨br, 1, none⟩) v1 (fun e => by have := own_base hd br e; omega)) (p := ⟨br, 2, none⟩) v2 (fun e => by have := own_base hd br e; omega)
  have l3 := own_far (own_far (own_far hl (p := ⟨br, 0, none⟩) v0 (fun e => by have := own_base hl br e; omega)) (p := ⟨br, 1, none⟩) v1 (fun e => by have := own_base hl br e; omega)) (p := ⟨br, 2, none⟩) v2 (fun e => by have := own_base hl br e; omega)
  obtain ⟨A', c', e, b1, b2, b3⟩ := own_shape2 d3
  injection e with e1 e2 e3
  subst e1 e3
  obtain ⟨A'', c'', e, k1, k2, k3⟩ := own_shape2 l3
  injection e with e1 e2 e3
  subst e1 e3
  exact ⟨A, n, c, A2, n2, c2, rfl, b1, b2, b3, k1, (((h.lv.far hbr 0 v0).far hbr 1 v1).far hbr 2 v2).links hn2 hm l3⟩
set_option maxRecDepth 100000 in
set_option maxHeartbeats 40000000 in
theorem nodeOf_any (A : Option Addr) (n c B : Nat) (l : List UInt8) (w : World) (hr : Reads w B 1 A n (u8s l)) (hB : B ≤ w.heap.size) (hnc : n ≤ c) (hn : c ≤ 9223372036854775807) (hn2 : n ≤ 1000000) (hrun : runOk 0 l = true) (hkn : OursN l) :
    Calls Tryd.prog 8 #[.slice A n c] w (NoIs w (nodeOf l)) := by
  have hln : l.length = n := by have := hr.1; rw [u8s_length] at this; omega
  obtain ⟨R, hR⟩ : ∃ R, fd upN l.length PNd.zero l = R := ⟨_, rfl⟩
  rw [show nodeOf l = R from hR]
  have HM0 : Hid (MRepN ((w.alloc (.cells #[.bool false, .slice none 0 0, .slice none 0 0] 28)).alloc (.cells #[.bool false, .slice none 0 0, .slice none 0 0] 28)) (w.heap.size + 2) (w.heap.size + 1) w.heap.size PNd.zero (.slice none 0 0) (.slice none 0 0) []) := by
    have h1 := Blk.new (w.alloc (.cells #[.bool false, .slice none 0 0, .slice none 0 0] 28)) 28 #[.bool false, .slice none 0 0, .slice none 0 0]
    rw [World.size_alloc] at h1
    exact ⟨h1, (Blk.new w _ _).alloc _, World.ownsRow_nil _ _ _ _, World.ownsRow_nil _ _ _ _, LVo.nil _ _, by omega, by omega⟩
  have HB0 := Lib.hid (below_alloc (below_one w (.cells #[.bool false, .slice none 0 0, .slice none 0 0] 28)) (.cells #[.bool false, .slice none 0 0, .slice none 0 0] 28))
  have HR := Lib.hid hr
  have HLN := Lib.hid hln
  have HRUN := Lib.hid hrun
  have HKN := Lib.hid hkn
  have HMS := Lib.hid hR
  clear hr hln hrun hkn hR
  go_enter Tryd.func8, Tryd.ntmps8
  go_wp2
  go_loopg [0] l.length (fun k vs wr => ∃ (i : Nat) (A2 : Option Addr) (nx c2 : Nat) (st : PNd) (vd vl : Value) (vz : List Value), vs = .slice A2 nx c2 ∧ nx ≤ c2 ∧ c2 ≤ 9223372036854775807 ∧ Hid ((l.drop i).length = nx) ∧ Hid (Reads w B 1 A2 nx (u8s (l.drop i))) ∧ Hid (nx ≤ k) ∧ Hid (MRepN wr (w.heap.size + 2) (w.heap.size + 1) w.heap.size st vd vl vz) ∧ Hid (Below w.heap.size w wr) ∧ Hid (fd upN k st (l.drop i) = R) ∧ Hid (OursN (l.drop i)) ∧ Hid (st.links.length ≤ i ∧ i ≤ n))
  case atStart => exact ⟨0, A, n, c, PNd.zero, _, _, _, rfl, hnc, hn, by rw [List.drop_zero]; exact HLN.out, by rw [List.drop_zero]; exact HR.out, by rw [HLN.out]; exact Nat.le_refl _, HM0.out, HB0.out, HMS.out, HKN.out, Nat.zero_le _, Nat.zero_le _⟩
  case round =>
    obtain ⟨i, A2, nx, c2, st, vd, vl, vz, rfl, hle, hc2, HL2, HR2, HK2, HM, HBL, HS, HKn, HIN⟩ := hrel
    have hrun2 := Lib.hid (runOk_drop HRUN.out i)
    generalize hxs : l.drop i = xs at *
    have HXS := Lib.hid hxs
    clear hxs
    obtain ⟨Ad, cd, hvd, -, -⟩ := own_shape HM.out.data
    obtain ⟨Al, cl, hvl, -, -⟩ := own_shape HM.out.links
    obtain ⟨nd, hnd⟩ : ∃ nd, st.data.length = nd := ⟨_, rfl⟩
    obtain ⟨nl, hnl⟩ : ∃ nl, st.links.length = nl := ⟨_, rfl⟩
    rw [hnd] at hvd
    rw [hnl] at hvl
    subst hvd hvl
    have HND := Lib.hid hnd
    have HNL := Lib.hid hnl
    clear hnd hnl
    have hbx := HM.out.blk.lt
    have hbr := HM.out.res.lt
    have kx0 := HM.out.blk.cell 0
    have kx1 := HM.out.blk.cell 1
    have kx2 := HM.out.blk.cell 2
    have fx := HM.out.blk.frozen
    have kr0 := HM.out.res.cell 0
    have kr1 := HM.out.res.cell 1
    have kr2 := HM.out.res.cell 2
    have fr := HM.out.res.frozen
    by_cases h0 : nx = 0
    · subst h0
      have hx : xs = [] := List.eq_nil_of_length_eq_zero HL2.out
      have HRS : Hid (R = some st) := by have h := HS.out; rw [hx, fd_nil] at h; exact h.symm
      clear hx
      have HMX : Hid (nl ≤ maxLen) := by have := HIN.out; have := HNL.out; show nl ≤ _; unfold maxLen; omega
      go_wp2
      (try simp only [Exit.inBlock, Exit.then])
      refine bodyPost_ret (results_cell_then rfl _ _ _ _ _ _ _ rfl (three_set HM.out.res (.bool st.has) (.slice Ad nd cd) (.slice Al nl cl)) Tryd.underlying28 rfl (by kernel_rfl)) rfl ?_
      exact ⟨three_below HBL.out (Nat.le_refl _) _ _ _, .inl ⟨st, Ad, nd, cd, Al, nl, cl, HRS.out, rfl, HM.out.arg HND.out HNL.out HMX.out _ _ _⟩⟩
    · have hpos : 0 < nx := by omega
      obtain ⟨b2, o2, rfl, -, -⟩ := HR2.out.lit hpos
      have hRr := (HR2.out.more hB).below HBL.out
      have HRr := Lib.hid hRr
      have HT := Lib.hid (pbTake_any (some ⟨b2, o2, none⟩) nx c2 w.heap.size xs wr hRr hle hc2 hrun2.out)
      clear hRr
      cases hp : pt xs with
      | none =>
        have HRN : Hid (R = none) := HS.out.symm.trans (fd_torn hp (by rw [HL2.out]; exact hpos) (by rw [HL2.out]; exact HK2.out))
        replace HT : Hid (Calls Tryd.prog 15 #[.slice (some ⟨b2, o2, none⟩) nx c2] wr fun e w' => e = .returned (.tuple #[.int .u64 0, .int .i64 0, .int .u64 0, .slice none 0 0, .int .i64 0]) ∧ ∃ j, w' = wr.drewN j) := HT.out.mono (by
          rintro e w' ⟨⟨v, rfl, h | ⟨t, A3, c3, h, -⟩⟩, j3, rfl⟩
          · exact ⟨by rw [h.2]; rfl, _, rfl⟩
          · rw [hp] at h; cases h)
        clear hp
        go_wp2_with (first | (go_at_call 15; refine HT.out.mono ?_; clear HT; rintro e w1 ⟨rfl, j3, rfl⟩) | fail)
        (try simp only [Exit.inBlock, Exit.then])
        refine bodyPost_ret (results_cell_then rfl _ _ _ _ _ _ _ rfl (three_set (HM.out.res.drewN j3) (.bool false) (.slice none 0 0) (.slice none 0 0)) Tryd.underlying28 rfl (by kernel_rfl)) rfl ?_
        exact ⟨three_below (below_drewN HBL.out j3) (Nat.le_refl _) _ _ _, .inr ⟨HRN.out, rfl⟩⟩
      | some t =>
        have hts := pt_size hp
        rw [HL2.out] at hts
        obtain ⟨key, k, hv⟩ : ∃ key k, vi xs = some (key, k) := by
          cases e : vi xs with
          | none => rw [pt_none1 e] at hp; cases hp
          | some q => exact ⟨q.1, q.2, rfl⟩
        obtain ⟨hko, hks⟩ := Ours.key HKn.out hv
        have HVO : Hid (key = 18 → OursL t.val) := (hks t hp).1
        obtain ⟨sh1, sh2⟩ := pt_shape hp hv
        have HKN2 : Hid (OursN (xs.drop t.size)) := (hks t hp).2
        have hcs := tail_slice HR2.out hts.2 hle
        have HPT := Lib.hid hp
        have HNLT := Lib.hid (pt_num_lt hp hrun2.out)
        replace HT : Hid (Calls Tryd.prog 15 #[.slice (some ⟨b2, o2, none⟩) nx c2] wr fun e w' => (∃ A3 n3 c3, e = .returned (.tuple #[.int .u64 (t.at_ : Nat), .int .i64 (t.kind : Nat), .int .u64 (t.num : Nat), .slice A3 n3 c3, .int .i64 (t.size : Nat)]) ∧ Hid (n3 ≤ c3 ∧ t.val.length = n3 ∧ Reads wr w.heap.size 1 A3 n3 (u8s t.val) ∧ c3 ≤ 9223372036854775807)) ∧ ∃ j, w' = wr.drewN j) := HT.out.mono (by
          rintro e w' ⟨⟨v, rfl, h | ⟨t', A3, c3, h, hv3, hle3, hr3, hmx3⟩⟩, j3, rfl⟩
          · rw [hp] at h; cases h.1
          · rw [hp] at h
            obtain rfl := Option.some.inj h
            exact ⟨⟨A3, _, c3, by rw [hv3], hle3, rfl, hr3, hmx3⟩, _, rfl⟩)
        have HUP : Hid (∀ st', upN st t = some st' → fd upN (gk - 1) st' (xs.drop t.size) = R) := fun st' hu => by
          have h1 := HK2.out
          obtain ⟨f, rfl⟩ : ∃ f, gk = f + 1 := ⟨gk - 1, by omega⟩
          have h := HS.out
          rw [fd_step hp hu (by rw [HL2.out]; exact h1)] at h
          exact h
        have HUN : Hid (upN st t = none → R = none) := fun hu => HS.out.symm.trans (fd_bad hp hu (by rw [HL2.out]; exact HK2.out))
        obtain ⟨A4, hA4, hr4⟩ := hcs
        have HR4 := Lib.hid hr4
        have HA4 := Lib.hid hA4
        have HXD : Hid (l.drop (i + t.size) = xs.drop t.size) := by show _ = _; rw [← HXS.out, List.drop_drop]
        clear hv hp hr4 hA4 hks
        have HVL : Hid (t.val.length ≤ 1000000) := by
          have h1 := pt_val HPT.out
          rw [HL2.out] at h1
          have h := HL2.out
          have h2 := congrArg List.length HXS.out
          rw [List.length_drop, HLN.out] at h2
          show _ ≤ _
          omega
        obtain ⟨ta, tk, tn, tv, tz⟩ := t
        simp only at sh1 sh2 hts HT HR4 HA4 HXD HKN2 HNLT HVO
        obtain ⟨hs1, hs2⟩ := hts
        have htz : ((tz : Int) == 0) = false := int_ne0 hs1
        have HSZ2 : Hid (i + 2 ≤ i + tz ∧ i + tz ≤ n) := by have h := HL2.out; have h2 := congrArg List.length HXS.out; rw [List.length_drop, HLN.out] at h2; show _ ∧ _; have := HIN.out.2; omega
        rcases hko with rfl | rfl | rfl | rfl
        · obtain rfl : ta = 1 := sh1
          obtain rfl : tk = 0 := sh2
          have HRN := Lib.hid (HUN.out rfl)
          go_wp2_with (first | (go_at_call 15; refine HT.out.mono ?_; clear HT; rintro e w1 ⟨⟨A3, n3, c3, rfl, HV3⟩, j3, rfl⟩) | fail)
          (try simp only [Exit.inBlock, Exit.then])
          refine bodyPost_ret (results_cell_then rfl _ _ _ _ _ _ _ rfl (three_set (HM.out.res.drewN j3) (.bool false) (.slice none 0 0) (.slice none 0 0)) Tryd.underlying28 rfl (by kernel_rfl)) rfl ?_
          exact ⟨three_below (below_drewN HBL.out j3) (Nat.le_refl _) _ _ _, .inr ⟨HRN.out, rfl⟩⟩
        · obtain rfl : ta = 1 := sh1
          obtain rfl : tk = 2 := sh2
          obtain ⟨i0, hi, hz0, hz1, hz2⟩ := info_parts infoU8
          by_cases hcz : c2 = tz
          · have hA := HA4.out
            rw [if_pos hcz] at hA
            subst hA
            have hczT := eq_true hcz
            clear hcz
            go_wp2_with (first | (go_at_call 15; refine HT.out.mono ?_; clear HT; rintro e w1 ⟨⟨A3, n3, c3, rfl, HV3⟩, j3, rfl⟩; have HRV := Lib.hid ((HV3.out.2.2.1.drewN j3).alloc (Nat.le_of_lt hbr) (.cells #[] 5)); have HOV := Lib.hid (World.ownsRow_made (base := w.heap.size + 2) (e := 5) (size := 1) (wr.drewN j3) #[] 0 hbx (by unfold maxLen; omega) rfl); have HN3 : Hid (n3 ≤ 1000000) := HV3.out.2.1 ▸ HVL.out) | (at_builtin; refine wpList_append_any _ rfl (.tmp 32) (.tmp 33) 22 rfl (w.heap.size + 2) 5 i0 (.int .u8 0) 1 1 Tryd.underlying22 hi hz0 hz1 hz2 rfl (by decide) _ 0 _ rfl HOV.out w.heap.size A3 n3 c3 _ rfl HRV.out (u8s_one _) (le_max HN3.out) (le_47 HN3.out) (by simp; exact Nat.le_of_lt hbx) ?_; rintro v3 w3 hown3 hg3 - -; obtain ⟨A9, c9, rfl, -, -⟩ := own_shape hown3; have HO3 := Lib.hid hown3; have HB3 : Hid (Below (wr.drewN j3).heap.size (wr.drewN j3) w3) := (below_one (wr.drewN j3) (.cells #[] 5)).grown hg3 (by simp) (fun k e => by cases e; exact Nat.le_refl _); have k0 : w3.cell? ⟨w.heap.size + 1, 0, none⟩ = some (.bool st.has) := ((HM.out.drewN j3).below HB3.out).blk.cell 0; have k3 : w3.cell? ⟨w.heap.size + 1, 1, none⟩ = some (.slice Ad nd cd) := ((HM.out.drewN j3).below HB3.out).blk.cell 1; have kf := ((HM.out.drewN j3).below HB3.out).blk.frozen; clear hown3 hg3) | fail)
            go_roundg (gk - 1)
            case measure => have := HK2.out; omega
            case rel => exact ⟨i + tz, _, nx - tz, c2 - tz, { st with has := true, data := tv }, _, _, _, rfl, by omega, by omega, by show _ = _; rw [HXD.out, List.length_drop, HL2.out], by rw [HXD.out]; exact HR4.out, by have := HK2.out; show _ ≤ _; omega, (HM.out.drewN j3).setData HB3.out (d := tv) (n := n3) (by have h := HO3.out; rw [List.nil_append, Nat.zero_add] at h; exact h) HV3.out.2.1.symm, ((below_then (below_drewN HBL.out j3) (Nat.le_of_lt hbr) HB3.out).setCell (Nat.le_of_lt (Nat.lt_succ_self _)) _).setCell (Nat.le_of_lt (Nat.lt_succ_self _)) _, by rw [HXD.out]; exact HUP.out _ rfl, by rw [HXD.out]; exact HKN2.out, Nat.le_trans HIN.out.1 (by have := HSZ2.out; omega), HSZ2.out.2⟩
          · have hA := HA4.out
            rw [if_neg hcz] at hA
            subst hA
            go_wp2_with (first | (go_at_call 15; refine HT.out.mono ?_; clear HT; rintro e w1 ⟨⟨A3, n3, c3, rfl, HV3⟩, j3, rfl⟩; have HRV := Lib.hid ((HV3.out.2.2.1.drewN j3).alloc (Nat.le_of_lt hbr) (.cells #[] 5)); have HOV := Lib.hid (World.ownsRow_made (base := w.heap.size + 2) (e := 5) (size := 1) (wr.drewN j3) #[] 0 hbx (by unfold maxLen; omega) rfl); have HN3 : Hid (n3 ≤ 1000000) := HV3.out.2.1 ▸ HVL.out) | (at_builtin; refine wpList_append_any _ rfl (.tmp 32) (.tmp 33) 22 rfl (w.heap.size + 2) 5 i0 (.int .u8 0) 1 1 Tryd.underlying22 hi hz0 hz1 hz2 rfl (by decide) _ 0 _ rfl HOV.out w.heap.size A3 n3 c3 _ rfl HRV.out (u8s_one _) (le_max HN3.out) (le_47 HN3.out) (by simp; exact Nat.le_of_lt hbx) ?_; rintro v3 w3 hown3 hg3 - -; obtain ⟨A9, c9, rfl, -, -⟩ := own_shape hown3; have HO3 := Lib.hid hown3; have HB3 : Hid (Below (wr.drewN j3).heap.size (wr.drewN j3) w3) := (below_one (wr.drewN j3) (.cells #[] 5)).grown hg3 (by simp) (fun k e => by cases e; exact Nat.le_refl _); have k0 : w3.cell? ⟨w.heap.size + 1, 0, none⟩ = some (.bool st.has) := ((HM.out.drewN j3).below HB3.out).blk.cell 0; have k3 : w3.cell? ⟨w.heap.size + 1, 1, none⟩ = some (.slice Ad nd cd) := ((HM.out.drewN j3).below HB3.out).blk.cell 1; have kf := ((HM.out.drewN j3).below HB3.out).blk.frozen; clear hown3 hg3) | fail)
            go_roundg (gk - 1)
            case measure => have := HK2.out; omega
            case rel => exact ⟨i + tz, _, nx - tz, c2 - tz, { st with has := true, data := tv }, _, _, _, rfl, by omega, by omega, by show _ = _; rw [HXD.out, List.length_drop, HL2.out], by rw [HXD.out]; exact HR4.out, by have := HK2.out; show _ ≤ _; omega, (HM.out.drewN j3).setData HB3.out (d := tv) (n := n3) (by have h := HO3.out; rw [List.nil_append, Nat.zero_add] at h; exact h) HV3.out.2.1.symm, ((below_then (below_drewN HBL.out j3) (Nat.le_of_lt hbr) HB3.out).setCell (Nat.le_of_lt (Nat.lt_succ_self _)) _).setCell (Nat.le_of_lt (Nat.lt_succ_self _)) _, by rw [HXD.out]; exact HUP.out _ rfl, by rw [HXD.out]; exact HKN2.out, Nat.le_trans HIN.out.1 (by have := HSZ2.out; omega), HSZ2.out.2⟩
        · obtain rfl : ta = 2 := sh1
          obtain rfl : tk = 0 := sh2
          have HRN := Lib.hid (HUN.out rfl)
          go_wp2_with (first | (go_at_call 15; refine HT.out.mono ?_; clear HT; rintro e w1 ⟨⟨A3, n3, c3, rfl, HV3⟩, j3, rfl⟩) | fail)
          (try simp only [Exit.inBlock, Exit.then])
          refine bodyPost_ret (results_cell_then rfl _ _ _ _ _ _ _ rfl (three_set (HM.out.res.drewN j3) (.bool false) (.slice none 0 0) (.slice none 0 0)) Tryd.underlying28 rfl (by kernel_rfl)) rfl ?_
          exact ⟨three_below (below_drewN HBL.out j3) (Nat.le_refl _) _ _ _, .inr ⟨HRN.out, rfl⟩⟩
        · obtain rfl : ta = 2 := sh1
          obtain rfl : tk = 2 := sh2
          have HRT := Lib.hid (pt_run HPT.out hrun2.out)
          have HLK : Hid (∀ (W : World) (A : Option Addr) (m c : Nat), Reads W w.heap.size 1 A m (u8s tv) → w.heap.size ≤ W.heap.size → m ≤ c → c ≤ 9223372036854775807 → m ≤ 1000000 → Calls Tryd.prog 20 #[.slice A m c] W (LoIs W (linkOf tv))) := fun W A m c h1 h2 h3 h4 h5 => linkOf_any A m c w.heap.size tv W h1 h2 h3 h4 h5 HRT.out (HVO.out rfl)
          have HBAD : Hid (linkOf tv = none → R = none) := fun e => HUN.out (by simp [upN, e])
          have HGOOD : Hid (∀ lk, linkOf tv = some lk → fd upN (gk - 1) { st with links := st.links ++ [lk] } (xs.drop tz) = R) := fun lk e => HUP.out _ (by simp [upN, e])
          have HTV := Lib.hid HVL.out
          have HNX : Hid (nl ≤ 1000000) := by have := HIN.out; have := HNL.out; show nl ≤ _; omega
          have b1 : Hid (nl + 1 ≤ maxLen) := by have := HNX.out; show nl + 1 ≤ _; unfold maxLen; omega
          have b2 : Hid ((nl + 1) * 56 ≤ 140737488355328) := by have := HNX.out; show _ ≤ _; omega
          obtain ⟨ipl, hil, hl0, hl1, hl2⟩ := info_parts infoPk
          cases hlk : linkOf tv with
          | none =>
            have HRN := Lib.hid (HBAD.out hlk)
            rw [hlk] at HLK
            clear hlk
            by_cases hcz : c2 = tz
            · have hA := HA4.out
              rw [if_pos hcz] at hA
              subst hA
              have hczT := eq_true hcz
              clear hcz
              go_wp2_with (first | (go_at_call 15; refine HT.out.mono ?_; clear HT; rintro e w1 ⟨⟨A3, n3, c3, rfl, HV3⟩, j3, rfl⟩; have HN3 : Hid (n3 ≤ 1000000) := HV3.out.2.1 ▸ HTV.out) | (go_at_call 20; refine (HLK.out (wr.drewN j3) A3 n3 c3 (HV3.out.2.2.1.drewN j3) (Nat.le_of_lt hbr) HV3.out.1 HV3.out.2.2.2 HN3.out).mono ?_; clear HLK; rintro e w5 ⟨hb5, ⟨_, _, _, h5, -⟩ | ⟨-, rfl⟩⟩; (cases h5); have HB5 := Lib.hid hb5; have HM5 := Lib.hid ((HM.out.drewN j3).below hb5); have q5 := HM5.out.res.lt; have q0 := HM5.out.res.cell 0; have q1 := HM5.out.res.cell 1; have q2 := HM5.out.res.cell 2; have qf := HM5.out.res.frozen; clear hb5) | fail)
              (try simp only [Exit.inBlock, Exit.then])
              refine bodyPost_ret (results_cell_then rfl _ _ _ _ _ _ _ rfl ((three_set HM5.out.res (.bool false) (.slice none 0 0) (.slice none 0 0)).alloc _) Tryd.underlying28 rfl (by kernel_rfl)) rfl ?_
              exact ⟨below_alloc (three_below (below_then (below_drewN HBL.out j3) (Nat.le_of_lt hbr) HB5.out) (Nat.le_refl _) _ _ _) _, .inr ⟨HRN.out, rfl⟩⟩
            · have hA := HA4.out
              rw [if_neg hcz] at hA
              subst hA
              go_wp2_with (first | (go_at_call 15; refine HT.out.mono ?_; clear HT; rintro e w1 ⟨⟨A3, n3, c3, rfl, HV3⟩, j3, rfl⟩; have HN3 : Hid (n3 ≤ 1000000) := HV3.out.2.1 ▸ HTV.out) | (go_at_call 20; refine (HLK.out (wr.drewN j3) A3 n3 c3 (HV3.out.2.2.1.drewN j3) (Nat.le_of_lt hbr) HV3.out.1 HV3.out.2.2.2 HN3.out).mono ?_; clear HLK; rintro e w5 ⟨hb5, ⟨_, _, _, h5, -⟩ | ⟨-, rfl⟩⟩; (cases h5); have HB5 := Lib.hid hb5; have HM5 := Lib.hid ((HM.out.drewN j3).below hb5); have q5 := HM5.out.res.lt; have q0 := HM5.out.res.cell 0; have q1 := HM5.out.res.cell 1; have q2 := HM5.out.res.cell 2; have qf := HM5.out.res.frozen; clear hb5) | fail)
              (try simp only [Exit.inBlock, Exit.then])
              refine bodyPost_ret (results_cell_then rfl _ _ _ _ _ _ _ rfl ((three_set HM5.out.res (.bool false) (.slice none 0 0) (.slice none 0 0)).alloc _) Tryd.underlying28 rfl (by kernel_rfl)) rfl ?_
              exact ⟨below_alloc (three_below (below_then (below_drewN HBL.out j3) (Nat.le_of_lt hbr) HB5.out) (Nat.le_refl _) _ _ _) _, .inr ⟨HRN.out, rfl⟩⟩
          | some lk =>
            have HGD := Lib.hid (HGOOD.out lk hlk)
            rw [hlk] at HLK
            clear hlk
            obtain ⟨lh, ln, ls_, lhash, lname, lsize⟩ := lk
            by_cases hcz : c2 = tz
            · have hA := HA4.out
              rw [if_pos hcz] at hA
              subst hA
              have hczT := eq_true hcz
              clear hcz
              have HOL : Hid (∀ j3, (wr.drewN j3).ownsRow (w.heap.size + 2) 53 6 (.slice Al nl cl) nl vz) := fun j3 => by have h := (HM.out.drewN j3).links; rw [HNL.out] at h; exact h
              go_wp2_with (first | (go_at_call 15; refine HT.out.mono ?_; clear HT; rintro e w1 ⟨⟨A3, n3, c3, rfl, HV3⟩, j3, rfl⟩; have HN3 : Hid (n3 ≤ 1000000) := HV3.out.2.1 ▸ HTV.out) | (go_at_call 20; refine (HLK.out (wr.drewN j3) A3 n3 c3 (HV3.out.2.2.1.drewN j3) (Nat.le_of_lt hbr) HV3.out.1 HV3.out.2.2.2 HN3.out).mono ?_; clear HLK; rintro e w5 ⟨hb5, ⟨st6, A6, c6, h5, rfl, ho6, hs6⟩ | ⟨h5, -⟩⟩; rotate_left; (cases h5); obtain rfl := Option.some.inj h5; simp only at ho6 hs6; have HB5 := Lib.hid hb5; have HO6 := Lib.hid (own_more ho6 (show w.heap.size + 2 ≤ (wr.drewN j3).heap.size from hbx)); have HS6 := Lib.hid hs6; have HM5 := Lib.hid ((HM.out.drewN j3).below hb5); have q2 := HM5.out.blk.cell 2; have hb5z := HM5.out.blk.lt; have HNEWS : Hid (Reads ((w5.alloc (.cells #[.bool lh, .bool ln, .bool ls_, .slice A6 lhash.length c6, .string lname, .int .u64 (lsize : Int)] 53)).alloc (.cells #[.bool lh, .bool ln, .bool ls_, .slice A6 lhash.length c6, .string lname, .int .u64 (lsize : Int)] 53)) (w5.heap.size + 2) 6 (some ⟨w5.heap.size + 1, 0, none⟩) 1 (cellsL ⟨lh, ln, ls_, lhash, lname, lsize⟩ (.slice A6 lhash.length c6))) := Reads.regroup (reads_lit2 w5 _ 53 [.bool lh, .bool ln, .bool ls_, .slice A6 lhash.length c6, .string lname, .int .u64 (lsize : Int)]) (by decide); have HB7 : Hid (Below (wr.drewN j3).heap.size (wr.drewN j3) ((w5.alloc (.cells #[.bool lh, .bool ln, .bool ls_, .slice A6 lhash.length c6, .string lname, .int .u64 (lsize : Int)] 53)).alloc (.cells #[.bool lh, .bool ln, .bool ls_, .slice A6 lhash.length c6, .string lname, .int .u64 (lsize : Int)] 53))) := below_alloc (below_alloc HB5.out _) _; clear hb5 h5 ho6 hs6) | (at_builtin; refine wpList_append_any _ rfl (.tmp 46) (.tmp 48) 26 rfl (w.heap.size + 2) 53 ipl _ 6 56 Tryd.underlying26 hil hl0 hl1 hl2 rfl (by decide) _ nl vz rfl (own_below (HOL.out _) HB7.out) (w5.heap.size + 2) (some ⟨w5.heap.size + 1, 0, none⟩) 1 1 _ rfl HNEWS.out (cellsL_one _ _ _ _) b1.out b2.out (Nat.le_trans hbx HB7.out.size) ?_; rintro v8 w8 hown8 hg8 - -; obtain ⟨A8, c8, rfl, -, -⟩ := own_shape hown8; have HO8 := Lib.hid hown8; have HG8 : Hid (((w5.alloc (.cells #[.bool lh, .bool ln, .bool ls_, .slice A6 lhash.length c6, .string lname, .int .u64 (lsize : Int)] 53)).alloc (.cells #[.bool lh, .bool ln, .bool ls_, .slice A6 lhash.length c6, .string lname, .int .u64 (lsize : Int)] 53)).grownBy w8 (Value.slice Al nl cl).ownBlock) := hg8; have r2 : w8.cell? ⟨w.heap.size + 1, 2, none⟩ = some (.slice Al nl cl) := (((HM.out.drewN j3).below HB7.out).far_row HG8.out).1.cell 2; have rf := (((HM.out.drewN j3).below HB7.out).far_row HG8.out).1.frozen; clear hown8 hg8) | fail)
              go_roundg (gk - 1)
              case measure => have := HK2.out; omega
              case rel => exact ⟨i + tz, _, nx - tz, c2 - tz, { st with links := st.links ++ [⟨lh, ln, ls_, lhash, lname, lsize⟩] }, _, _, _, rfl, by omega, by omega, by show _ = _; rw [HXD.out, List.length_drop, HL2.out], by rw [HXD.out]; exact HR4.out, by have := HK2.out; show _ ≤ _; omega, (HM.out.drewN j3).addLink HB7.out (own_below HO6.out (below_alloc (below_one w5 _) _)) HS6.out (by rw [HNL.out]; exact HO8.out) HG8.out, ((below_then (below_drewN HBL.out j3) (Nat.le_of_lt hbr) HB7.out).grown HG8.out (Nat.le_trans (Nat.le_of_lt hbr) HB7.out.size) (fun k e => Nat.le_trans (Nat.le_add_right _ 2) (own_base (HOL.out 0) k e))).setCell (Nat.le_of_lt (Nat.lt_succ_self _)) _, by rw [HXD.out]; exact HGD.out, by rw [HXD.out]; exact HKN2.out, by rw [List.length_append, HNL.out]; have h1 := HIN.out.1; have h2 := HNL.out; have h3 := HSZ2.out; show nl + 1 ≤ _; omega, HSZ2.out.2⟩
            · have hA := HA4.out
              rw [if_neg hcz] at hA
              subst hA
              have HOL : Hid (∀ j3, (wr.drewN j3).ownsRow (w.heap.size + 2) 53 6 (.slice Al nl cl) nl vz) := fun j3 => by have h := (HM.out.drewN j3).links; rw [HNL.out] at h; exact h
              go_wp2_with (first | (go_at_call 15; refine HT.out.mono ?_; clear HT; rintro e w1 ⟨⟨A3, n3, c3, rfl, HV3⟩, j3, rfl⟩; have HN3 : Hid (n3 ≤ 1000000) := HV3.out.2.1 ▸ HTV.out) | (go_at_call 20; refine (HLK.out (wr.drewN j3) A3 n3 c3 (HV3.out.2.2.1.drewN j3) (Nat.le_of_lt hbr) HV3.out.1 HV3.out.2.2.2 HN3.out).mono ?_; clear HLK; rintro e w5 ⟨hb5, ⟨st6, A6, c6, h5, rfl, ho6, hs6⟩ | ⟨h5, -⟩⟩; rotate_left; (cases h5); obtain rfl := Option.some.inj h5; simp only at ho6 hs6; have HB5 := Lib.hid hb5; have HO6 := Lib.hid (own_more ho6 (show w.heap.size + 2 ≤ (wr.drewN j3).heap.size from hbx)); have HS6 := Lib.hid hs6; have HM5 := Lib.hid ((HM.out.drewN j3).below hb5); have q2 := HM5.out.blk.cell 2; have hb5z := HM5.out.blk.lt; have HNEWS : Hid (Reads ((w5.alloc (.cells #[.bool lh, .bool ln, .bool ls_, .slice A6 lhash.length c6, .string lname, .int .u64 (lsize : Int)] 53)).alloc (.cells #[.bool lh, .bool ln, .bool ls_, .slice A6 lhash.length c6, .string lname, .int .u64 (lsize : Int)] 53)) (w5.heap.size + 2) 6 (some ⟨w5.heap.size + 1, 0, none⟩) 1 (cellsL ⟨lh, ln, ls_, lhash, lname, lsize⟩ (.slice A6 lhash.length c6))) := Reads.regroup (reads_lit2 w5 _ 53 [.bool lh, .bool ln, .bool ls_, .slice A6 lhash.length c6, .string lname, .int .u64 (lsize : Int)]) (by decide); have HB7 : Hid (Below (wr.drewN j3).heap.size (wr.drewN j3) ((w5.alloc (.cells #[.bool lh, .bool ln, .bool ls_, .slice A6 lhash.length c6, .string lname, .int .u64 (lsize : Int)] 53)).alloc (.cells #[.bool lh, .bool ln, .bool ls_, .slice A6 lhash.length c6, .string lname, .int .u64 (lsize : Int)] 53))) := below_alloc (below_alloc HB5.out _) _; clear hb5 h5 ho6 hs6) | (at_builtin; refine wpList_append_any _ rfl (.tmp 46) (.tmp 48) 26 rfl (w.heap.size + 2) 53 ipl _ 6 56 Tryd.underlying26 hil hl0 hl1 hl2 rfl (by decide) _ nl vz rfl (own_below (HOL.out _) HB7.out) (w5.heap.size + 2) (some ⟨w5.heap.size + 1, 0, none⟩) 1 1 _ rfl HNEWS.out (cellsL_one _ _ _ _) b1.out b2.out (Nat.le_trans hbx HB7.out.size) ?_; rintro v8 w8 hown8 hg8 - -; obtain ⟨A8, c8, rfl, -, -⟩ := own_shape hown8; have HO8 := Lib.hid hown8; have HG8 : Hid (((w5.alloc (.cells #[.bool lh, .bool ln, .bool ls_, .slice A6 lhash.length c6, .string lname, .int .u64 (lsize : Int)] 53)).alloc (.cells #[.bool lh, .bool ln, .bool ls_, .slice A6 lhash.length c6, .string lname, .int .u64 (lsize : Int)] 53)).grownBy w8 (Value.slice Al nl cl).ownBlock) := hg8; have r2 : w8.cell? ⟨w.heap.size + 1, 2, none⟩ = some (.slice Al nl cl) := (((HM.out.drewN j3).below HB7.out).far_row HG8.out).1.cell 2; have rf := (((HM.out.drewN j3).below HB7.out).far_row HG8.out).1.frozen; clear hown8 hg8) | fail)
              go_roundg (gk - 1)
              case measure => have := HK2.out; omega
              case rel => exact ⟨i + tz, _, nx - tz, c2 - tz, { st with links := st.links ++ [⟨lh, ln, ls_, lhash, lname, lsize⟩] }, _, _, _, rfl, by omega, by omega, by show _ = _; rw [HXD.out, List.length_drop, HL2.out], by rw [HXD.out]; exact HR4.out, by have := HK2.out; show _ ≤ _; omega, (HM.out.drewN j3).addLink HB7.out (own_below HO6.out (below_alloc (below_one w5 _) _)) HS6.out (by rw [HNL.out]; exact HO8.out) HG8.out, ((below_then (below_drewN HBL.out j3) (Nat.le_of_lt hbr) HB7.out).grown HG8.out (Nat.le_trans (Nat.le_of_lt hbr) HB7.out.size) (fun k e => Nat.le_trans (Nat.le_add_right _ 2) (own_base (HOL.out 0) k e))).setCell (Nat.le_of_lt (Nat.lt_succ_self _)) _, by rw [HXD.out]; exact HGD.out, by rw [HXD.out]; exact HKN2.out, by rw [List.length_append, HNL.out]; have h1 := HIN.out.1; have h2 := HNL.out; have h3 := HSZ2.out; show nl + 1 ≤ _; omega, HSZ2.out.2⟩
end Go.Proofs.YthgbhaackihbjaaDoor
