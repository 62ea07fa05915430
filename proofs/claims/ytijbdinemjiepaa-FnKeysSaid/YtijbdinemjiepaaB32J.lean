/- gobase32: decode, in place. -/
import Derived.Test.YtijbdinemjiepaaB32I
namespace Go.Proofs.Ytijbdinemjiepaa
open Go.RowKit Go.Lib

/-- What is decoded: c bytes stand at the head; from e on the letters of the rest. -/
structure Dec (w wr : World) (g m c e : Nat) (l X : List UInt8) : Prop where
  row : ByRow wr g X
  len : X.length = m
  told : X.take c = l.take c
  rest : X.drop e = (enc5 (l.drop c)).map letter
  only : w.grownBy wr (some g)
  cl : c ≤ l.length
theorem dig_next {D : List Nat} {f : Nat → Nat} {j k : Nat} (h : ∀ i, i < j → D[i]? = some (f i)) (hk : D[j]? = some k) : ∀ i, i < j + 1 → D[i]? = some (upd f j k i) := by
  intro i hi
  by_cases hij : i = j
  · subst hij; rw [hk]; simp [upd]
  · rw [h i (by omega), upd, if_neg hij]
theorem enc5_none {r : List UInt8} (h : (enc5 r).length = 0) : r = [] := by
  rw [enc5_length] at h
  exact List.length_eq_zero_iff.1 (by omega)
set_option maxRecDepth 100000 in
set_option maxHeartbeats 8000000 in
theorem decode_any (p g m cs cd : Nat) (A D : Option Addr) (l X : List UInt8) (w : World) (he : EncAt w p) (hp : p ≠ g) (hL : ByRow w g X) (hX : X = (enc5 l).map letter) (hm : m = (enc5 l).length) (hm2 : m ≤ 2000)
    (hD : 0 < m → D = some ⟨g, 0, none⟩) (hA : 0 < m → A = some ⟨g, 0, none⟩) (hmd : m ≤ cd) (hcd : cd ≤ 9223372036854775807) (hms : m ≤ cs) (hcs : cs ≤ 9223372036854775807) :
    Calls Try.prog 42 #[.pointer (some ⟨p, 0, none⟩), .slice D m cd, .slice A m cs] w fun e w' => e = .returned (.tuple #[.int .i64 l.length, .bool false, .nilIface]) ∧ w.grownBy w' (some g) ∧ ∃ X', ByRow w' g X' ∧ X'.length = m ∧ X'.take l.length = l := by
  have hD0 : Hid (Dec w w g m 0 0 l X) := ⟨hL, by rw [hX, hm, List.length_map], rfl, by rw [List.drop_zero, List.drop_zero, hX], World.grownBy.refl _ _, Nat.zero_le _⟩
  have HE := Lib.hid he
  have hpw : p < w.heap.size := Blk.lt he
  have hgw : g < w.heap.size := hL.lt
  clear hL hX hm he
  go_enter Try.func42, Try.ntmps42
  go_wp2
  refine wp_loop_ghost_k (fun gk a wr => ∃ (c e : Nat) (As Ad : Option Addr) (ns cs md cd : Nat) (X : List UInt8), Fd a (.pointer (some ⟨p, 0, none⟩)) (.slice Ad md cd) (.slice As ns cs) (.int .i64 c) (.int .i64 m) ∧ Hid (ns ≤ gk) ∧ ns + e = m ∧ c ≤ e ∧ (0 < ns → As = some ⟨g, e, none⟩) ∧ (0 < ns → Ad = some ⟨g, c, none⟩ ∧ md + c = m) ∧ md ≤ cd ∧ cd ≤ 9223372036854775807 ∧ ns ≤ cs ∧ cs ≤ 9223372036854775807 ∧ Hid (Dec w wr g m c e l X)) m ?start ?round
  case start => exact ⟨0, 0, A, D, m, cs, m, cd, X, ⟨rfl, rfl, rfl, rfl, rfl, rfl, rfl, rfl, rfl⟩, Nat.le_refl m, rfl, Nat.le_refl 0, hA, fun h => ⟨hD h, rfl⟩, hmd, hcd, hms, hcs, hD0.out⟩
  case round =>
    clear hmd hcd hms hcs hD hA hD0
    intro gk a wr hI J2 K2 hJ2 hK2
    obtain ⟨c, e, As, Ad, ns, cs, md, cd, X, hfr, HGK, hne, hce, hAs, hAd, hmd, hcd, hns, hcs, HD⟩ := hI
    obtain ⟨u, rfl⟩ := hfr.open_
    clear hfr
    have hlen : ns = (enc5 (l.drop c)).length := by
      have h := congrArg List.length HD.out.rest
      rw [List.length_drop, HD.out.len, List.length_map] at h
      omega
    by_cases h0 : ns = 0
    · have hc : c = l.length := by
        have h1 := enc5_none (r := l.drop c) (by omega)
        have h2 := congrArg List.length h1
        rw [List.length_drop, List.length_nil] at h2
        have := HD.out.cl
        omega
      have HC := Lib.hid hc
      have g0 : ¬ (0 : Int) < (ns : Int) := by omega
      clear hlen hc
      go_wp2
      go_ret3
      refine ⟨by rw [← HC.out]; rfl, HD.out.only, X, HD.out.row, HD.out.len, ?_⟩
      rw [← HC.out, HD.out.told, HC.out, List.take_length]
    · obtain rfl := hAs (by omega)
      obtain ⟨rfl, hmc⟩ := hAd (by omega)
      have g0 : (0 : Int) < (ns : Int) := by omega
      have HLEN := Lib.hid hlen
      have hw : w.heap.size ≤ wr.heap.size := HD.out.only.size
      clear hlen hAs hAd
      go_upto_block 2 with fail
      have hgr : g < wr.heap.size := HD.out.row.lt
      have HDB : Hid (DB (wr.alloc (.cells #[.int .u8 0, .int .u8 0, .int .u8 0, .int .u8 0, .int .u8 0, .int .u8 0, .int .u8 0, .int .u8 0] 78)) wr.heap.size (fun _ => 0)) := by
        refine ⟨(Blk.new wr _ _).lt, fun j hj => ⟨?_, (Blk.new wr _ _).frozen j⟩⟩
        rw [(Blk.new wr _ _).cell]
        obtain rfl | rfl | rfl | rfl | rfl | rfl | rfl | rfl : j = 0 ∨ j = 1 ∨ j = 2 ∨ j = 3 ∨ j = 4 ∨ j = 5 ∨ j = 6 ∨ j = 7 := by omega
        all_goals rfl
      have HXa := Lib.hid (HD.out.row.below (below_one wr (.cells #[.int .u8 0, .int .u8 0, .int .u8 0, .int .u8 0, .int .u8 0, .int .u8 0, .int .u8 0, .int .u8 0] 78)))
      have HOa := Lib.hid (only_alloc HD.out.only (.cells #[.int .u8 0, .int .u8 0, .int .u8 0, .int .u8 0, .int .u8 0, .int .u8 0, .int .u8 0, .int .u8 0] 78))
      generalize wr.alloc (.cells #[.int .u8 0, .int .u8 0, .int .u8 0, .int .u8 0, .int .u8 0, .int .u8 0, .int .u8 0, .int .u8 0] 78) = wa at HDB HXa HOa ⊢
      generalize wr.heap.size = d at hgr hw HDB ⊢
      have hgd : g ≠ d := by omega
      have hpd : p ≠ d := by omega
      have HRST := Lib.hid HD.out.rest
      refine wp_cut (fun a wx => ∃ (J ns2 cs2 : Nat) (A2 : Option Addr) (f : Nat → Nat), Fd a (.pointer (some ⟨p, 0, none⟩)) (.slice (some ⟨g, c, none⟩) md cd) (.slice A2 ns2 cs2) (.int .i64 c) (.int .i64 m) ∧ a.tmps.getD 10 undef = .pointer (some ⟨d, 0, none⟩) ∧ a.tmps.getD 11 undef = .int .i64 J ∧ ns2 + J = ns ∧ J ≤ 8 ∧ (J = 8 ∨ ns2 = 0) ∧ (0 < ns2 → A2 = some ⟨g, e + J, none⟩) ∧ ns2 ≤ cs2 ∧ cs2 ≤ 9223372036854775807 ∧ Hid (DB wx d f) ∧ Hid (∀ i, i < J → (enc5 (l.drop c))[i]? = some (f i)) ∧ Hid (wa.grownBy wx (some d))) ?rest ?first
      case first =>
        intro J3 K3 hJ3 hK3
        go_wp2
        refine wp_loop_ghost_k (fun k a wx => ∃ (j ns2 cs2 : Nat) (A2 : Option Addr) (f : Nat → Nat), Fd a (.pointer (some ⟨p, 0, none⟩)) (.slice (some ⟨g, c, none⟩) md cd) (.slice A2 ns2 cs2) (.int .i64 c) (.int .i64 m) ∧ a.tmps.getD 10 undef = .pointer (some ⟨d, 0, none⟩) ∧ a.tmps.getD 11 undef = .int .i64 8 ∧ a.tmps.getD 12 undef = .int .i64 j ∧ Hid (j + k = 8) ∧ ns2 + j = ns ∧ (0 < ns2 → A2 = some ⟨g, e + j, none⟩) ∧ ns2 ≤ cs2 ∧ cs2 ≤ 9223372036854775807 ∧ Hid (DB wx d f) ∧ Hid (∀ i, i < j → (enc5 (l.drop c))[i]? = some (f i)) ∧ Hid (wa.grownBy wx (some d))) 8 ?istart ?iround
        case istart => exact ⟨0, ns, cs, some ⟨g, e, none⟩, fun _ => 0, ⟨rfl, rfl, rfl, rfl, rfl, rfl, rfl, rfl, rfl⟩, rfl, rfl, rfl, rfl, rfl, fun _ => rfl, hns, hcs, HDB.out, fun i hi => absurd hi (Nat.not_lt_zero i), World.grownBy.refl _ _⟩
        case iround =>
          intro k a wx hI J4 K4 hJ4 hK4
          obtain ⟨j, ns2, cs2, A2, f, hfr, h10, h11, h12, HJK, hnj, hA2, hns2, hcs2, HDX, HDG, HOX⟩ := hI
          clear hns hcs HDB
          obtain ⟨u, rfl⟩ := hfr.open4 h10 h11 h12
          clear hfr h10 h11 h12
          by_cases hj8 : j = 8
          · have g1 : ¬ (j : Int) < 8 := by omega
            have HJ8 := Lib.hid hj8
            clear hj8
            go_wp2
            refine Met.intro (hJ3 _ _ ?_)
            refine ⟨8, ns2, cs2, A2, f, ⟨rfl, rfl, rfl, rfl, rfl, rfl, rfl, rfl, rfl⟩, rfl, rfl, by rw [← HJ8.out]; exact hnj, Nat.le_refl 8, .inl rfl, ?_, hns2, hcs2, HDX.out, ?_, HOX.out⟩
            · rw [← HJ8.out]; exact hA2
            · rw [← HJ8.out]; exact HDG.out
          · have g1 : (j : Int) < 8 := by have := HJK.out; omega
            have hj9 : j < 8 := by have := HJK.out; omega
            have cp := ((HE.out.past' HOa.out hp hpw).past HOX.out hpd).pd
            by_cases hn0 : ns2 = 0
            · subst hn0
              go_wp2
              refine Met.intro (hJ3 _ _ ?_)
              exact ⟨j, 0, cs2, A2, f, ⟨rfl, rfl, rfl, rfl, rfl, rfl, rfl, rfl, rfl⟩, rfl, rfl, hnj, by omega, .inr rfl, fun h => absurd h (Nat.lt_irrefl 0), hns2, hcs2, HDX.out, HDG.out, HOX.out⟩
            · obtain rfl := hA2 (by omega)
              have g2 : ¬ (ns2 : Int) = 0 := by omega
              have g3 : (0 : Int) < (ns2 : Int) := by omega
              have g4 : (1 : Int) ≤ (ns2 : Int) := by omega
              have g5 : (1 : Int) ≤ (cs2 : Int) := by omega
              have hjl : j < (enc5 (l.drop c)).length := by have := HLEN.out; omega
              have hk32 := enc5_lt (l.drop c) _ (List.getElem_mem hjl)
              have hkj := List.getElem?_eq_getElem hjl
              generalize (enc5 (l.drop c))[j]'hjl = kk at hk32 hkj
              have hxe : X[e + j]? = some (letter kk) := by
                rw [← List.getElem?_drop, HRST.out, List.getElem?_map, hkj]
                rfl
              have c1 := ((HXa.out.past HOX.out hgd).at_ (e + j) _ hxe).1
              have c2 := ((HE.out.past' HOa.out hp hpw).past HOX.out hpd).dig kk hk32
              have hz := letter_far kk hk32
              obtain ⟨z, hz0⟩ : ∃ z, (letter kk).toNat = z := ⟨_, rfl⟩
              rw [hz0] at c1 c2 hz
              have g6 : ¬ (z : Int) = 255 := by have := hz.1; omega
              have g7 : (z : Int) < 256 := by have := hz.2; omega
              have g8 : ¬ (kk : Int) = 255 := by omega
              obtain ⟨c3, c4⟩ := HDX.out.at_ j hj9
              have HDX2 := Lib.hid (HDX.out.set j kk hj9)
              have HOX2 := Lib.hid (only_setb HOX.out j (.int .u8 (kk : Nat)))
              have HKJ := Lib.hid hkj
              clear hjl hkj hxe hz hz0 hk32
              by_cases hc1 : cs2 = 1
              · subst hc1
                go_wp2
                refine Handed.intro (k - 1) (by have := HJK.out; omega) (hJ4 _ _ _ ?_)
                exact ⟨j + 1, 0, 0, _, upd f j kk, ⟨rfl, rfl, rfl, rfl, rfl, rfl, rfl, rfl, rfl⟩, rfl, rfl, rfl, by have := HJK.out; show _ = _; omega, by omega, fun h => absurd h (by omega), by omega, Nat.zero_le _, HDX2.out, dig_next HDG.out HKJ.out, HOX2.out⟩
              · go_wp2
                refine Handed.intro (k - 1) (by have := HJK.out; omega) (hJ4 _ _ _ ?_)
                exact ⟨j + 1, ns2 - 1, cs2 - 1, _, upd f j kk, ⟨rfl, rfl, rfl, rfl, rfl, rfl, rfl, rfl, rfl⟩, rfl, rfl, rfl, by have := HJK.out; show _ = _; omega, by omega, fun _ => rfl, by omega, by omega, HDX2.out, dig_next HDG.out HKJ.out, HOX2.out⟩
      case rest =>
        clear HDB
        intro a wx hI
        obtain ⟨J, ns2, cs2, A2, f, hfr, h10, h11, hnj, hJ8, hJn, hA2, hns2, hcs2, HDX, HDG, HOX⟩ := hI
        obtain ⟨u, rfl⟩ := hfr.open3 h10 h11
        clear hfr h10 h11
        have HCL : Hid (c ≤ l.length) := HD.out.cl
        have HTLD : Hid (X.take c = l.take c) := HD.out.told
        have HXL : Hid (X.length = m) := HD.out.len
        have HOW := Lib.hid (only_new HOa.out HOX.out hw)
        have HXx := Lib.hid (HXa.out.past HOX.out hgd)
        clear HXa HOa HOX HD
        obtain ⟨r, hr⟩ : ∃ r, l.drop c = r := ⟨_, rfl⟩
        rw [hr] at HLEN HDG HRST
        have HR := Lib.hid hr
        clear hr
        rcases r with _ | ⟨y0, _ | ⟨y1, _ | ⟨y2, _ | ⟨y3, _ | ⟨y4, t⟩⟩⟩⟩⟩
        · exact absurd HLEN.out h0
        · have hns0 : ns = 2 := HLEN.out
          obtain ⟨rfl, rfl⟩ : J = 2 ∧ ns2 = 0 := by omega
          obtain ⟨z0, hz0⟩ : ∃ z, y0.toNat = z := ⟨_, rfl⟩
          have b0 : z0 < 256 := by rw [← hz0]; exact UInt8.toNat_lt _
          have f0 : f 0 = z0 / 8 := by have h := (Option.some.inj (HDG.out 0 (by omega))).symm; rw [← hz0]; exact h
          have c0 := (HDX.out.at_ 0 (by omega)).1
          have f1 : f 1 = z0 % 8 * 4 := by have h := (Option.some.inj (HDG.out 1 (by omega))).symm; rw [← hz0]; exact h
          have c1 := (HDX.out.at_ 1 (by omega)).1
          have HZ0 := Lib.hid hz0
          clear hz0
          generalize f 0 = k0 at f0 c0
          generalize f 1 = k1 at f1 c1
          have hx0 : c < X.length := by have := HXL.out; omega
          obtain ⟨d0, q0⟩ := HXx.out.at_ (c) _ (List.getElem?_eq_getElem hx0)
          generalize X[c]'hx0 = old0 at d0
          have p0 : bits .or .u8 ((k0 : Int) * 8 % 256) ((k1 : Int) / 4) = (z0 : Int) := pk0 b0 (by omega) (by omega)
          have m0 : (0 : Int) < (md : Int) := by omega
          have HDEC : Hid (Dec w ((wx).setCell ⟨g, c, none⟩ (.int .u8 (y0.toNat : Int))) g m (c + 1) (e + 2) l ((X).set (c) y0)) := by
            have hrr := HR.out
            refine ⟨(HXx.out).set (c) y0 (by (try simp only [List.length_set]); exact hx0), by simp only [List.length_set]; exact HXL.out, put1 X l c _ _ (by have := HXL.out; omega) HTLD.out hrr, ?_, only_setb (HOW.out) (c) (.int .u8 (y0.toNat : Int)), ?_⟩
            · rw [List.drop_set_of_lt (by omega), ← List.drop_drop (i := 2) (j := e), HRST.out, ← List.drop_drop (i := 1) (j := c), hrr]
              rfl
            · have h := congrArg List.length hrr
              rw [List.length_drop] at h
              simp only [List.length_cons, List.length_nil] at h
              omega
          rw [HZ0.out] at HDEC
          have hc2 : c ≤ 2000 := by omega
          have Q1 : Hid (0 ≤ gk - 1) := Nat.zero_le _
          have Q3 : Hid (gk - 1 < gk) := by show _ < _; have := HGK.out; omega
          have Q2 : Hid (0 + (e + 2) = m) := by show _ = _; omega
          have Q4 : Hid (c + 1 ≤ e + 2) := by show _ ≤ _; omega
          have Q5 : Hid (md - 5 ≤ cd - 5 ∧ cd - 5 ≤ 9223372036854775807) := ⟨by omega, by omega⟩
          clear hx0 f0 f1 HDX HDG HXx HXL HTLD HRST HLEN HR
          generalize (X).set (c) y0 = X2 at *
          by_cases h5 : 5 < md
          · have g5 : (5 : Int) < (md : Int) := by omega
            have g6 : (5 : Int) ≤ (cd : Int) := by omega
            have g7 : ¬ cd = 5 := by omega
            go_wp2
            refine Handed.intro (gk - 1) Q3.out (hJ2 _ _ _ ?_)
            exact ⟨c + 1, e + 2, A2, _, 0, cs2, md - 5, cd - 5, X2, ⟨rfl, rfl, rfl, rfl, rfl, rfl, rfl, rfl, rfl⟩, Q1.out, Q2.out, Q4.out, fun h => absurd h (Nat.lt_irrefl 0), fun h => absurd h (Nat.lt_irrefl 0), Q5.out.1, Q5.out.2, hns2, hcs2, HDEC.out⟩
          · have g5 : ¬ (5 : Int) < (md : Int) := by omega
            go_wp2
            refine Handed.intro (gk - 1) Q3.out (hJ2 _ _ _ ?_)
            exact ⟨c + 1, e + 2, A2, _, 0, cs2, md, cd, X2, ⟨rfl, rfl, rfl, rfl, rfl, rfl, rfl, rfl, rfl⟩, Q1.out, Q2.out, Q4.out, fun h => absurd h (Nat.lt_irrefl 0), fun h => absurd h (Nat.lt_irrefl 0), hmd, hcd, hns2, hcs2, HDEC.out⟩
        · have hns0 : ns = 4 := HLEN.out
          obtain ⟨rfl, rfl⟩ : J = 4 ∧ ns2 = 0 := by omega
          obtain ⟨z0, hz0⟩ : ∃ z, y0.toNat = z := ⟨_, rfl⟩
          have b0 : z0 < 256 := by rw [← hz0]; exact UInt8.toNat_lt _
          obtain ⟨z1, hz1⟩ : ∃ z, y1.toNat = z := ⟨_, rfl⟩
          have b1 : z1 < 256 := by rw [← hz1]; exact UInt8.toNat_lt _
          have f0 : f 0 = z0 / 8 := by have h := (Option.some.inj (HDG.out 0 (by omega))).symm; rw [← hz0]; exact h
          have c0 := (HDX.out.at_ 0 (by omega)).1
          have f1 : f 1 = z0 % 8 * 4 + z1 / 64 := by have h := (Option.some.inj (HDG.out 1 (by omega))).symm; rw [← hz0, ← hz1]; exact h
          have c1 := (HDX.out.at_ 1 (by omega)).1
          have f2 : f 2 = z1 / 2 % 32 := by have h := (Option.some.inj (HDG.out 2 (by omega))).symm; rw [← hz1]; exact h
          have c2 := (HDX.out.at_ 2 (by omega)).1
          have f3 : f 3 = z1 % 2 * 16 := by have h := (Option.some.inj (HDG.out 3 (by omega))).symm; rw [← hz1]; exact h
          have c3 := (HDX.out.at_ 3 (by omega)).1
          have HZ0 := Lib.hid hz0
          have HZ1 := Lib.hid hz1
          clear hz0 hz1
          generalize f 0 = k0 at f0 c0
          generalize f 1 = k1 at f1 c1
          generalize f 2 = k2 at f2 c2
          generalize f 3 = k3 at f3 c3
          have hx0 : c < X.length := by have := HXL.out; omega
          obtain ⟨d0, q0⟩ := HXx.out.at_ (c) _ (List.getElem?_eq_getElem hx0)
          generalize X[c]'hx0 = old0 at d0
          have p0 : bits .or .u8 ((k0 : Int) * 8 % 256) ((k1 : Int) / 4) = (z0 : Int) := pk0 b0 (by omega) (by omega)
          have m0 : (0 : Int) < (md : Int) := by omega
          have hx1 : c + 1 < X.length := by have := HXL.out; omega
          obtain ⟨d1, q1⟩ := HXx.out.at_ (c + 1) _ (List.getElem?_eq_getElem hx1)
          generalize X[c + 1]'hx1 = old1 at d1
          have p1 : bits .or .u8 (bits .or .u8 ((k1 : Int) * 64 % 256) ((k2 : Int) * 2 % 256)) ((k3 : Int) / 16) = (z1 : Int) := pk1 b1 (by omega) (by omega) (by omega)
          have m1 : (1 : Int) < (md : Int) := by omega
          have HDEC : Hid (Dec w (((wx).setCell ⟨g, c + 1, none⟩ (.int .u8 (y1.toNat : Int))).setCell ⟨g, c, none⟩ (.int .u8 (y0.toNat : Int))) g m (c + 2) (e + 4) l (((X).set (c + 1) y1).set (c) y0)) := by
            have hrr := HR.out
            refine ⟨((HXx.out).set (c + 1) y1 (by (try simp only [List.length_set]); exact hx1)).set (c) y0 (by (try simp only [List.length_set]); exact hx0), by simp only [List.length_set]; exact HXL.out, put2 X l c _ _ _ (by have := HXL.out; omega) HTLD.out hrr, ?_, only_setb (only_setb (HOW.out) (c + 1) (.int .u8 (y1.toNat : Int))) (c) (.int .u8 (y0.toNat : Int)), ?_⟩
            · rw [List.drop_set_of_lt (by omega), List.drop_set_of_lt (by omega), ← List.drop_drop (i := 4) (j := e), HRST.out, ← List.drop_drop (i := 2) (j := c), hrr]
              rfl
            · have h := congrArg List.length hrr
              rw [List.length_drop] at h
              simp only [List.length_cons, List.length_nil] at h
              omega
          rw [HZ0.out] at HDEC
          rw [HZ1.out] at HDEC
          have hc2 : c ≤ 2000 := by omega
          have Q1 : Hid (0 ≤ gk - 1) := Nat.zero_le _
          have Q3 : Hid (gk - 1 < gk) := by show _ < _; have := HGK.out; omega
          have Q2 : Hid (0 + (e + 4) = m) := by show _ = _; omega
          have Q4 : Hid (c + 2 ≤ e + 4) := by show _ ≤ _; omega
          have Q5 : Hid (md - 5 ≤ cd - 5 ∧ cd - 5 ≤ 9223372036854775807) := ⟨by omega, by omega⟩
          clear hx0 hx1 f0 f1 f2 f3 HDX HDG HXx HXL HTLD HRST HLEN HR
          generalize ((X).set (c + 1) y1).set (c) y0 = X2 at *
          by_cases h5 : 5 < md
          · have g5 : (5 : Int) < (md : Int) := by omega
            have g6 : (5 : Int) ≤ (cd : Int) := by omega
            have g7 : ¬ cd = 5 := by omega
            go_wp2
            refine Handed.intro (gk - 1) Q3.out (hJ2 _ _ _ ?_)
            exact ⟨c + 2, e + 4, A2, _, 0, cs2, md - 5, cd - 5, X2, ⟨rfl, rfl, rfl, rfl, rfl, rfl, rfl, rfl, rfl⟩, Q1.out, Q2.out, Q4.out, fun h => absurd h (Nat.lt_irrefl 0), fun h => absurd h (Nat.lt_irrefl 0), Q5.out.1, Q5.out.2, hns2, hcs2, HDEC.out⟩
          · have g5 : ¬ (5 : Int) < (md : Int) := by omega
            go_wp2
            refine Handed.intro (gk - 1) Q3.out (hJ2 _ _ _ ?_)
            exact ⟨c + 2, e + 4, A2, _, 0, cs2, md, cd, X2, ⟨rfl, rfl, rfl, rfl, rfl, rfl, rfl, rfl, rfl⟩, Q1.out, Q2.out, Q4.out, fun h => absurd h (Nat.lt_irrefl 0), fun h => absurd h (Nat.lt_irrefl 0), hmd, hcd, hns2, hcs2, HDEC.out⟩
        · have hns0 : ns = 5 := HLEN.out
          obtain ⟨rfl, rfl⟩ : J = 5 ∧ ns2 = 0 := by omega
          obtain ⟨z0, hz0⟩ : ∃ z, y0.toNat = z := ⟨_, rfl⟩
          have b0 : z0 < 256 := by rw [← hz0]; exact UInt8.toNat_lt _
          obtain ⟨z1, hz1⟩ : ∃ z, y1.toNat = z := ⟨_, rfl⟩
          have b1 : z1 < 256 := by rw [← hz1]; exact UInt8.toNat_lt _
          obtain ⟨z2, hz2⟩ : ∃ z, y2.toNat = z := ⟨_, rfl⟩
          have b2 : z2 < 256 := by rw [← hz2]; exact UInt8.toNat_lt _
          have f0 : f 0 = z0 / 8 := by have h := (Option.some.inj (HDG.out 0 (by omega))).symm; rw [← hz0]; exact h
          have c0 := (HDX.out.at_ 0 (by omega)).1
          have f1 : f 1 = z0 % 8 * 4 + z1 / 64 := by have h := (Option.some.inj (HDG.out 1 (by omega))).symm; rw [← hz0, ← hz1]; exact h
          have c1 := (HDX.out.at_ 1 (by omega)).1
          have f2 : f 2 = z1 / 2 % 32 := by have h := (Option.some.inj (HDG.out 2 (by omega))).symm; rw [← hz1]; exact h
          have c2 := (HDX.out.at_ 2 (by omega)).1
          have f3 : f 3 = z1 % 2 * 16 + z2 / 16 := by have h := (Option.some.inj (HDG.out 3 (by omega))).symm; rw [← hz1, ← hz2]; exact h
          have c3 := (HDX.out.at_ 3 (by omega)).1
          have f4 : f 4 = z2 % 16 * 2 := by have h := (Option.some.inj (HDG.out 4 (by omega))).symm; rw [← hz2]; exact h
          have c4 := (HDX.out.at_ 4 (by omega)).1
          have HZ0 := Lib.hid hz0
          have HZ1 := Lib.hid hz1
          have HZ2 := Lib.hid hz2
          clear hz0 hz1 hz2
          generalize f 0 = k0 at f0 c0
          generalize f 1 = k1 at f1 c1
          generalize f 2 = k2 at f2 c2
          generalize f 3 = k3 at f3 c3
          generalize f 4 = k4 at f4 c4
          have hx0 : c < X.length := by have := HXL.out; omega
          obtain ⟨d0, q0⟩ := HXx.out.at_ (c) _ (List.getElem?_eq_getElem hx0)
          generalize X[c]'hx0 = old0 at d0
          have p0 : bits .or .u8 ((k0 : Int) * 8 % 256) ((k1 : Int) / 4) = (z0 : Int) := pk0 b0 (by omega) (by omega)
          have m0 : (0 : Int) < (md : Int) := by omega
          have hx1 : c + 1 < X.length := by have := HXL.out; omega
          obtain ⟨d1, q1⟩ := HXx.out.at_ (c + 1) _ (List.getElem?_eq_getElem hx1)
          generalize X[c + 1]'hx1 = old1 at d1
          have p1 : bits .or .u8 (bits .or .u8 ((k1 : Int) * 64 % 256) ((k2 : Int) * 2 % 256)) ((k3 : Int) / 16) = (z1 : Int) := pk1 b1 (by omega) (by omega) (by omega)
          have m1 : (1 : Int) < (md : Int) := by omega
          have hx2 : c + 2 < X.length := by have := HXL.out; omega
          obtain ⟨d2, q2⟩ := HXx.out.at_ (c + 2) _ (List.getElem?_eq_getElem hx2)
          generalize X[c + 2]'hx2 = old2 at d2
          have p2 : bits .or .u8 ((k3 : Int) * 16 % 256) ((k4 : Int) / 2) = (z2 : Int) := pk2 b2 (by omega) (by omega)
          have m2 : (2 : Int) < (md : Int) := by omega
          have HDEC : Hid (Dec w ((((wx).setCell ⟨g, c + 2, none⟩ (.int .u8 (y2.toNat : Int))).setCell ⟨g, c + 1, none⟩ (.int .u8 (y1.toNat : Int))).setCell ⟨g, c, none⟩ (.int .u8 (y0.toNat : Int))) g m (c + 3) (e + 5) l ((((X).set (c + 2) y2).set (c + 1) y1).set (c) y0)) := by
            have hrr := HR.out
            refine ⟨(((HXx.out).set (c + 2) y2 (by (try simp only [List.length_set]); exact hx2)).set (c + 1) y1 (by (try simp only [List.length_set]); exact hx1)).set (c) y0 (by (try simp only [List.length_set]); exact hx0), by simp only [List.length_set]; exact HXL.out, put3 X l c _ _ _ _ (by have := HXL.out; omega) HTLD.out hrr, ?_, only_setb (only_setb (only_setb (HOW.out) (c + 2) (.int .u8 (y2.toNat : Int))) (c + 1) (.int .u8 (y1.toNat : Int))) (c) (.int .u8 (y0.toNat : Int)), ?_⟩
            · rw [List.drop_set_of_lt (by omega), List.drop_set_of_lt (by omega), List.drop_set_of_lt (by omega), ← List.drop_drop (i := 5) (j := e), HRST.out, ← List.drop_drop (i := 3) (j := c), hrr]
              rfl
            · have h := congrArg List.length hrr
              rw [List.length_drop] at h
              simp only [List.length_cons, List.length_nil] at h
              omega
          rw [HZ0.out] at HDEC
          rw [HZ1.out] at HDEC
          rw [HZ2.out] at HDEC
          have hc2 : c ≤ 2000 := by omega
          have Q1 : Hid (0 ≤ gk - 1) := Nat.zero_le _
          have Q3 : Hid (gk - 1 < gk) := by show _ < _; have := HGK.out; omega
          have Q2 : Hid (0 + (e + 5) = m) := by show _ = _; omega
          have Q4 : Hid (c + 3 ≤ e + 5) := by show _ ≤ _; omega
          have Q5 : Hid (md - 5 ≤ cd - 5 ∧ cd - 5 ≤ 9223372036854775807) := ⟨by omega, by omega⟩
          clear hx0 hx1 hx2 f0 f1 f2 f3 f4 HDX HDG HXx HXL HTLD HRST HLEN HR
          generalize (((X).set (c + 2) y2).set (c + 1) y1).set (c) y0 = X2 at *
          by_cases h5 : 5 < md
          · have g5 : (5 : Int) < (md : Int) := by omega
            have g6 : (5 : Int) ≤ (cd : Int) := by omega
            have g7 : ¬ cd = 5 := by omega
            go_wp2
            refine Handed.intro (gk - 1) Q3.out (hJ2 _ _ _ ?_)
            exact ⟨c + 3, e + 5, A2, _, 0, cs2, md - 5, cd - 5, X2, ⟨rfl, rfl, rfl, rfl, rfl, rfl, rfl, rfl, rfl⟩, Q1.out, Q2.out, Q4.out, fun h => absurd h (Nat.lt_irrefl 0), fun h => absurd h (Nat.lt_irrefl 0), Q5.out.1, Q5.out.2, hns2, hcs2, HDEC.out⟩
          · have g5 : ¬ (5 : Int) < (md : Int) := by omega
            go_wp2
            refine Handed.intro (gk - 1) Q3.out (hJ2 _ _ _ ?_)
            exact ⟨c + 3, e + 5, A2, _, 0, cs2, md, cd, X2, ⟨rfl, rfl, rfl, rfl, rfl, rfl, rfl, rfl, rfl⟩, Q1.out, Q2.out, Q4.out, fun h => absurd h (Nat.lt_irrefl 0), fun h => absurd h (Nat.lt_irrefl 0), hmd, hcd, hns2, hcs2, HDEC.out⟩
        · have hns0 : ns = 7 := HLEN.out
          obtain ⟨rfl, rfl⟩ : J = 7 ∧ ns2 = 0 := by omega
          obtain ⟨z0, hz0⟩ : ∃ z, y0.toNat = z := ⟨_, rfl⟩
          have b0 : z0 < 256 := by rw [← hz0]; exact UInt8.toNat_lt _
          obtain ⟨z1, hz1⟩ : ∃ z, y1.toNat = z := ⟨_, rfl⟩
          have b1 : z1 < 256 := by rw [← hz1]; exact UInt8.toNat_lt _
          obtain ⟨z2, hz2⟩ : ∃ z, y2.toNat = z := ⟨_, rfl⟩
          have b2 : z2 < 256 := by rw [← hz2]; exact UInt8.toNat_lt _
          obtain ⟨z3, hz3⟩ : ∃ z, y3.toNat = z := ⟨_, rfl⟩
          have b3 : z3 < 256 := by rw [← hz3]; exact UInt8.toNat_lt _
          have f0 : f 0 = z0 / 8 := by have h := (Option.some.inj (HDG.out 0 (by omega))).symm; rw [← hz0]; exact h
          have c0 := (HDX.out.at_ 0 (by omega)).1
          have f1 : f 1 = z0 % 8 * 4 + z1 / 64 := by have h := (Option.some.inj (HDG.out 1 (by omega))).symm; rw [← hz0, ← hz1]; exact h
          have c1 := (HDX.out.at_ 1 (by omega)).1
          have f2 : f 2 = z1 / 2 % 32 := by have h := (Option.some.inj (HDG.out 2 (by omega))).symm; rw [← hz1]; exact h
          have c2 := (HDX.out.at_ 2 (by omega)).1
          have f3 : f 3 = z1 % 2 * 16 + z2 / 16 := by have h := (Option.some.inj (HDG.out 3 (by omega))).symm; rw [← hz1, ← hz2]; exact h
          have c3 := (HDX.out.at_ 3 (by omega)).1
          have f4 : f 4 = z2 % 16 * 2 + z3 / 128 := by have h := (Option.some.inj (HDG.out 4 (by omega))).symm; rw [← hz2, ← hz3]; exact h
          have c4 := (HDX.out.at_ 4 (by omega)).1
          have f5 : f 5 = z3 / 4 % 32 := by have h := (Option.some.inj (HDG.out 5 (by omega))).symm; rw [← hz3]; exact h
          have c5 := (HDX.out.at_ 5 (by omega)).1
          have f6 : f 6 = z3 % 4 * 8 := by have h := (Option.some.inj (HDG.out 6 (by omega))).symm; rw [← hz3]; exact h
          have c6 := (HDX.out.at_ 6 (by omega)).1
          have HZ0 := Lib.hid hz0
          have HZ1 := Lib.hid hz1
          have HZ2 := Lib.hid hz2
          have HZ3 := Lib.hid hz3
          clear hz0 hz1 hz2 hz3
          generalize f 0 = k0 at f0 c0
          generalize f 1 = k1 at f1 c1
          generalize f 2 = k2 at f2 c2
          generalize f 3 = k3 at f3 c3
          generalize f 4 = k4 at f4 c4
          generalize f 5 = k5 at f5 c5
          generalize f 6 = k6 at f6 c6
          have hx0 : c < X.length := by have := HXL.out; omega
          obtain ⟨d0, q0⟩ := HXx.out.at_ (c) _ (List.getElem?_eq_getElem hx0)
          generalize X[c]'hx0 = old0 at d0
          have p0 : bits .or .u8 ((k0 : Int) * 8 % 256) ((k1 : Int) / 4) = (z0 : Int) := pk0 b0 (by omega) (by omega)
          have m0 : (0 : Int) < (md : Int) := by omega
          have hx1 : c + 1 < X.length := by have := HXL.out; omega
          obtain ⟨d1, q1⟩ := HXx.out.at_ (c + 1) _ (List.getElem?_eq_getElem hx1)
          generalize X[c + 1]'hx1 = old1 at d1
          have p1 : bits .or .u8 (bits .or .u8 ((k1 : Int) * 64 % 256) ((k2 : Int) * 2 % 256)) ((k3 : Int) / 16) = (z1 : Int) := pk1 b1 (by omega) (by omega) (by omega)
          have m1 : (1 : Int) < (md : Int) := by omega
          have hx2 : c + 2 < X.length := by have := HXL.out; omega
          obtain ⟨d2, q2⟩ := HXx.out.at_ (c + 2) _ (List.getElem?_eq_getElem hx2)
          generalize X[c + 2]'hx2 = old2 at d2
          have p2 : bits .or .u8 ((k3 : Int) * 16 % 256) ((k4 : Int) / 2) = (z2 : Int) := pk2 b2 (by omega) (by omega)
          have m2 : (2 : Int) < (md : Int) := by omega
          have hx3 : c + 3 < X.length := by have := HXL.out; omega
          obtain ⟨d3, q3⟩ := HXx.out.at_ (c + 3) _ (List.getElem?_eq_getElem hx3)
          generalize X[c + 3]'hx3 = old3 at d3
          have p3 : bits .or .u8 (bits .or .u8 ((k4 : Int) * 128 % 256) ((k5 : Int) * 4 % 256)) ((k6 : Int) / 8) = (z3 : Int) := pk3 b3 (by omega) (by omega) (by omega)
          have m3 : (3 : Int) < (md : Int) := by omega
          have HDEC : Hid (Dec w (((((wx).setCell ⟨g, c + 3, none⟩ (.int .u8 (y3.toNat : Int))).setCell ⟨g, c + 2, none⟩ (.int .u8 (y2.toNat : Int))).setCell ⟨g, c + 1, none⟩ (.int .u8 (y1.toNat : Int))).setCell ⟨g, c, none⟩ (.int .u8 (y0.toNat : Int))) g m (c + 4) (e + 7) l (((((X).set (c + 3) y3).set (c + 2) y2).set (c + 1) y1).set (c) y0)) := by
            have hrr := HR.out
            refine ⟨((((HXx.out).set (c + 3) y3 (by (try simp only [List.length_set]); exact hx3)).set (c + 2) y2 (by (try simp only [List.length_set]); exact hx2)).set (c + 1) y1 (by (try simp only [List.length_set]); exact hx1)).set (c) y0 (by (try simp only [List.length_set]); exact hx0), by simp only [List.length_set]; exact HXL.out, put4 X l c _ _ _ _ _ (by have := HXL.out; omega) HTLD.out hrr, ?_, only_setb (only_setb (only_setb (only_setb (HOW.out) (c + 3) (.int .u8 (y3.toNat : Int))) (c + 2) (.int .u8 (y2.toNat : Int))) (c + 1) (.int .u8 (y1.toNat : Int))) (c) (.int .u8 (y0.toNat : Int)), ?_⟩
            · rw [List.drop_set_of_lt (by omega), List.drop_set_of_lt (by omega), List.drop_set_of_lt (by omega), List.drop_set_of_lt (by omega), ← List.drop_drop (i := 7) (j := e), HRST.out, ← List.drop_drop (i := 4) (j := c), hrr]
              rfl
            · have h := congrArg List.length hrr
              rw [List.length_drop] at h
              simp only [List.length_cons, List.length_nil] at h
              omega
          rw [HZ0.out] at HDEC
          rw [HZ1.out] at HDEC
          rw [HZ2.out] at HDEC
          rw [HZ3.out] at HDEC
          have hc2 : c ≤ 2000 := by omega
          have Q1 : Hid (0 ≤ gk - 1) := Nat.zero_le _
          have Q3 : Hid (gk - 1 < gk) := by show _ < _; have := HGK.out; omega
          have Q2 : Hid (0 + (e + 7) = m) := by show _ = _; omega
          have Q4 : Hid (c + 4 ≤ e + 7) := by show _ ≤ _; omega
          have Q5 : Hid (md - 5 ≤ cd - 5 ∧ cd - 5 ≤ 9223372036854775807) := ⟨by omega, by omega⟩
          clear hx0 hx1 hx2 hx3 f0 f1 f2 f3 f4 f5 f6 HDX HDG HXx HXL HTLD HRST HLEN HR
          generalize ((((X).set (c + 3) y3).set (c + 2) y2).set (c + 1) y1).set (c) y0 = X2 at *
          have g5 : (5 : Int) < (md : Int) := by omega
          have g6 : (5 : Int) ≤ (cd : Int) := by omega
          have g7 : ¬ cd = 5 := by omega
          go_wp2
          refine Handed.intro (gk - 1) Q3.out (hJ2 _ _ _ ?_)
          exact ⟨c + 4, e + 7, A2, _, 0, cs2, md - 5, cd - 5, X2, ⟨rfl, rfl, rfl, rfl, rfl, rfl, rfl, rfl, rfl⟩, Q1.out, Q2.out, Q4.out, fun h => absurd h (Nat.lt_irrefl 0), fun h => absurd h (Nat.lt_irrefl 0), Q5.out.1, Q5.out.2, hns2, hcs2, HDEC.out⟩
        · have hns0 : ns = 8 + (enc5 t).length := by rw [HLEN.out]; simp only [enc5, List.length_cons]; omega
          obtain rfl : J = 8 := by omega
          obtain ⟨z0, hz0⟩ : ∃ z, y0.toNat = z := ⟨_, rfl⟩
          have b0 : z0 < 256 := by rw [← hz0]; exact UInt8.toNat_lt _
          obtain ⟨z1, hz1⟩ : ∃ z, y1.toNat = z := ⟨_, rfl⟩
          have b1 : z1 < 256 := by rw [← hz1]; exact UInt8.toNat_lt _
          obtain ⟨z2, hz2⟩ : ∃ z, y2.toNat = z := ⟨_, rfl⟩
          have b2 : z2 < 256 := by rw [← hz2]; exact UInt8.toNat_lt _
          obtain ⟨z3, hz3⟩ : ∃ z, y3.toNat = z := ⟨_, rfl⟩
          have b3 : z3 < 256 := by rw [← hz3]; exact UInt8.toNat_lt _
          obtain ⟨z4, hz4⟩ : ∃ z, y4.toNat = z := ⟨_, rfl⟩
          have b4 : z4 < 256 := by rw [← hz4]; exact UInt8.toNat_lt _
          have f0 : f 0 = z0 / 8 := by have h := (Option.some.inj (HDG.out 0 (by omega))).symm; rw [← hz0]; exact h
          have c0 := (HDX.out.at_ 0 (by omega)).1
          have f1 : f 1 = z0 % 8 * 4 + z1 / 64 := by have h := (Option.some.inj (HDG.out 1 (by omega))).symm; rw [← hz0, ← hz1]; exact h
          have c1 := (HDX.out.at_ 1 (by omega)).1
          have f2 : f 2 = z1 / 2 % 32 := by have h := (Option.some.inj (HDG.out 2 (by omega))).symm; rw [← hz1]; exact h
          have c2 := (HDX.out.at_ 2 (by omega)).1
          have f3 : f 3 = z1 % 2 * 16 + z2 / 16 := by have h := (Option.some.inj (HDG.out 3 (by omega))).symm; rw [← hz1, ← hz2]; exact h
          have c3 := (HDX.out.at_ 3 (by omega)).1
          have f4 : f 4 = z2 % 16 * 2 + z3 / 128 := by have h := (Option.some.inj (HDG.out 4 (by omega))).symm; rw [← hz2, ← hz3]; exact h
          have c4 := (HDX.out.at_ 4 (by omega)).1
          have f5 : f 5 = z3 / 4 % 32 := by have h := (Option.some.inj (HDG.out 5 (by omega))).symm; rw [← hz3]; exact h
          have c5 := (HDX.out.at_ 5 (by omega)).1
          have f6 : f 6 = z3 % 4 * 8 + z4 / 32 := by have h := (Option.some.inj (HDG.out 6 (by omega))).symm; rw [← hz3, ← hz4]; exact h
          have c6 := (HDX.out.at_ 6 (by omega)).1
          have f7 : f 7 = z4 % 32 := by have h := (Option.some.inj (HDG.out 7 (by omega))).symm; rw [← hz4]; exact h
          have c7 := (HDX.out.at_ 7 (by omega)).1
          have HZ0 := Lib.hid hz0
          have HZ1 := Lib.hid hz1
          have HZ2 := Lib.hid hz2
          have HZ3 := Lib.hid hz3
          have HZ4 := Lib.hid hz4
          clear hz0 hz1 hz2 hz3 hz4
          generalize f 0 = k0 at f0 c0
          generalize f 1 = k1 at f1 c1
          generalize f 2 = k2 at f2 c2
          generalize f 3 = k3 at f3 c3
          generalize f 4 = k4 at f4 c4
          generalize f 5 = k5 at f5 c5
          generalize f 6 = k6 at f6 c6
          generalize f 7 = k7 at f7 c7
          have hx0 : c < X.length := by have := HXL.out; omega
          obtain ⟨d0, q0⟩ := HXx.out.at_ (c) _ (List.getElem?_eq_getElem hx0)
          generalize X[c]'hx0 = old0 at d0
          have p0 : bits .or .u8 ((k0 : Int) * 8 % 256) ((k1 : Int) / 4) = (z0 : Int) := pk0 b0 (by omega) (by omega)
          have m0 : (0 : Int) < (md : Int) := by omega
          have hx1 : c + 1 < X.length := by have := HXL.out; omega
          obtain ⟨d1, q1⟩ := HXx.out.at_ (c + 1) _ (List.getElem?_eq_getElem hx1)
          generalize X[c + 1]'hx1 = old1 at d1
          have p1 : bits .or .u8 (bits .or .u8 ((k1 : Int) * 64 % 256) ((k2 : Int) * 2 % 256)) ((k3 : Int) / 16) = (z1 : Int) := pk1 b1 (by omega) (by omega) (by omega)
          have m1 : (1 : Int) < (md : Int) := by omega
          have hx2 : c + 2 < X.length := by have := HXL.out; omega
          obtain ⟨d2, q2⟩ := HXx.out.at_ (c + 2) _ (List.getElem?_eq_getElem hx2)
          generalize X[c + 2]'hx2 = old2 at d2
          have p2 : bits .or .u8 ((k3 : Int) * 16 % 256) ((k4 : Int) / 2) = (z2 : Int) := pk2 b2 (by omega) (by omega)
          have m2 : (2 : Int) < (md : Int) := by omega
          have hx3 : c + 3 < X.length := by have := HXL.out; omega
          obtain ⟨d3, q3⟩ := HXx.out.at_ (c + 3) _ (List.getElem?_eq_getElem hx3)
          generalize X[c + 3]'hx3 = old3 at d3
          have p3 : bits .or .u8 (bits .or .u8 ((k4 : Int) * 128 % 256) ((k5 : Int) * 4 % 256)) ((k6 : Int) / 8) = (z3 : Int) := pk3 b3 (by omega) (by omega) (by omega)
          have m3 : (3 : Int) < (md : Int) := by omega
          have hx4 : c + 4 < X.length := by have := HXL.out; omega
          obtain ⟨d4, q4⟩ := HXx.out.at_ (c + 4) _ (List.getElem?_eq_getElem hx4)
          generalize X[c + 4]'hx4 = old4 at d4
          have p4 : bits .or .u8 ((k6 : Int) * 32 % 256) (k7 : Int) = (z4 : Int) := pk4 b4 (by omega) (by omega)
          have m4 : (4 : Int) < (md : Int) := by omega
          have HDEC : Hid (Dec w ((((((wx).setCell ⟨g, c + 4, none⟩ (.int .u8 (y4.toNat : Int))).setCell ⟨g, c + 3, none⟩ (.int .u8 (y3.toNat : Int))).setCell ⟨g, c + 2, none⟩ (.int .u8 (y2.toNat : Int))).setCell ⟨g, c + 1, none⟩ (.int .u8 (y1.toNat : Int))).setCell ⟨g, c, none⟩ (.int .u8 (y0.toNat : Int))) g m (c + 5) (e + 8) l ((((((X).set (c + 4) y4).set (c + 3) y3).set (c + 2) y2).set (c + 1) y1).set (c) y0)) := by
            have hrr := HR.out
            refine ⟨(((((HXx.out).set (c + 4) y4 (by (try simp only [List.length_set]); exact hx4)).set (c + 3) y3 (by (try simp only [List.length_set]); exact hx3)).set (c + 2) y2 (by (try simp only [List.length_set]); exact hx2)).set (c + 1) y1 (by (try simp only [List.length_set]); exact hx1)).set (c) y0 (by (try simp only [List.length_set]); exact hx0), by simp only [List.length_set]; exact HXL.out, put5 X l c _ _ _ _ _ _ (by have := HXL.out; omega) HTLD.out hrr, ?_, only_setb (only_setb (only_setb (only_setb (only_setb (HOW.out) (c + 4) (.int .u8 (y4.toNat : Int))) (c + 3) (.int .u8 (y3.toNat : Int))) (c + 2) (.int .u8 (y2.toNat : Int))) (c + 1) (.int .u8 (y1.toNat : Int))) (c) (.int .u8 (y0.toNat : Int)), ?_⟩
            · rw [List.drop_set_of_lt (by omega), List.drop_set_of_lt (by omega), List.drop_set_of_lt (by omega), List.drop_set_of_lt (by omega), List.drop_set_of_lt (by omega), ← List.drop_drop (i := 8) (j := e), HRST.out, ← List.drop_drop (i := 5) (j := c), hrr]
              rfl
            · have h := congrArg List.length hrr
              rw [List.length_drop] at h
              simp only [List.length_cons] at h
              omega
          rw [HZ0.out] at HDEC
          rw [HZ1.out] at HDEC
          rw [HZ2.out] at HDEC
          rw [HZ3.out] at HDEC
          rw [HZ4.out] at HDEC
          have hc2 : c ≤ 2000 := by omega
          have Q1 : Hid (ns2 ≤ gk - 1) := by show _ ≤ _; have := HGK.out; omega
          have Q3 : Hid (gk - 1 < gk) := by show _ < _; have := HGK.out; omega
          have Q2 : Hid (ns2 + (e + 8) = m) := by show _ = _; omega
          have Q4 : Hid (c + 5 ≤ e + 8) := by show _ ≤ _; omega
          have Q5 : Hid (md - 5 ≤ cd - 5 ∧ cd - 5 ≤ 9223372036854775807) := ⟨by omega, by omega⟩
          have Q6 : Hid (md - 5 + (c + 5) = m) := by show _ = _; omega
          clear hx0 hx1 hx2 hx3 hx4 f0 f1 f2 f3 f4 f5 f6 f7 HDX HDG HXx HXL HTLD HRST HLEN HR
          generalize (((((X).set (c + 4) y4).set (c + 3) y3).set (c + 2) y2).set (c + 1) y1).set (c) y0 = X2 at *
          have g5 : (5 : Int) < (md : Int) := by omega
          have g6 : (5 : Int) ≤ (cd : Int) := by omega
          have g7 : ¬ cd = 5 := by omega
          go_wp2
          refine Handed.intro (gk - 1) Q3.out (hJ2 _ _ _ ?_)
          exact ⟨c + 5, e + 8, A2, _, ns2, cs2, md - 5, cd - 5, X2, ⟨rfl, rfl, rfl, rfl, rfl, rfl, rfl, rfl, rfl⟩, Q1.out, Q2.out, Q4.out, hA2, fun _ => ⟨rfl, Q6.out⟩, Q5.out.1, Q5.out.2, hns2, hcs2, HDEC.out⟩
end Go.Proofs.Ytijbdinemjiepaa
