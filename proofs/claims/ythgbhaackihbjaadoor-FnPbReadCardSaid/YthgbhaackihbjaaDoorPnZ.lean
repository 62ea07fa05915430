/- The law FnPbRead: whatever the bytes, the call returns true. -/
import Derived.Test.YthgbhaackihbjaaDoorPnK
import Derived.Test.YthgbhaackihbjaaDoorPnY
import Derived.Test.YthgbhaackihbjaaDoorPbQ
namespace Go.Proofs.YthgbhaackihbjaaDoor
open Go.RowKit

theorem plain_ml (l : PLk) : sameLink (plML (ml l)) l = true := by
  obtain ⟨hh, hn, hs, hash, name, size⟩ := l
  cases hh <;> cases hn <;> cases hs <;> simp [sameLink, plML, ml, plain, optBytes]
theorem plain_links (ls : List PLk) : sameLinks (ls.map fun l => plML (ml l)) ls = true := by
  induction ls with
  | nil => rfl
  | cons l t ih =>
    show (sameLink (plML (ml l)) l && sameLinks (t.map fun l => plML (ml l)) t) = true
    rw [plain_ml, ih]
    rfl
theorem same_read (st : PNd) : sameNode (plMN (mn st)) st = true := by
  obtain ⟨has, data, links⟩ := st
  have h := plain_links links
  cases has <;> simp [sameNode, plMN, mn, optBytes, h, Function.comp_def]
theorem NodeArg.more {w : World} {B B' : Nat} {x : PNd} {v : Value} (h : NodeArg w B x v) (hb : B ≤ B') : NodeArg w B' x v := by
  obtain ⟨A, n, c, A2, n2, c2, h0, h1, h2, h3, h4, h5⟩ := h.ex
  exact ⟨A, n, c, A2, n2, c2, h0, h1, h2, h3.more hb, h4, h5.more hb⟩
set_option maxRecDepth 100000 in
set_option maxHeartbeats 8000000 in
theorem pbRead_any (A : Option Addr) (n c B : Nat) (l : List UInt8) (w : World) (a0 a1 a2 : Addr) (hr : Reads w B 1 A n (u8s l)) (hB : B ≤ w.heap.size) (hnc : n ≤ c) (hc : c ≤ 9223372036854775807) (he : ErrsM w a0 a1 a2) :
    Calls Tryd.prog 3 #[.slice A n c] w (Ans w true) := by
  have HE := Lib.hid he
  have HR := Lib.hid hr
  have HAW := Lib.hid (fun W : World => awake_any W)
  have HKN := Lib.hid (oursN_any A n c B l w hr hnc hc)
  have HLN : Hid (l.length = n) := by have := hr.1; rw [u8s_length] at this; show _ = _; omega
  clear he hr
  by_cases hbig : 2147483647 < n
  · go_enter Tryd.func3, Tryd.ntmps3
    go_wp2
    go_ret
    exact ⟨rfl, Below.refl _ _⟩
  by_cases hlong : 500 < n
  · go_enter Tryd.func3, Tryd.ntmps3
    go_wp2_with (first | (go_at_call 6; refine (HAW.out _).mono ?_; rintro e w1 ⟨rfl, hb1⟩; have HB1 := Lib.hid hb1; clear hb1) | fail)
    go_ret
    exact ⟨rfl, HB1.out⟩
  have hdl0 : decide ((500 : Int) < (n : Int)) = false := decide_eq_false (by omega)
  go_enter Tryd.func3, Tryd.ntmps3
  go_upto_if 17 with (first | (go_at_call 5; refine HKN.out.mono ?_; clear HKN; rintro e w1 ⟨⟨v, rfl, hv⟩, k, rfl⟩; have HV := Lib.hid hv; clear hv) | fail)
  have HB0 := Lib.hid (below_drewN (Below.refl w.heap.size w) k)
  cases v with
  | false =>
    go_wp2_with (first | (go_at_call 6; refine (HAW.out _).mono ?_; rintro e w1 ⟨rfl, hb1⟩; have HB1 := Lib.hid hb1; clear hb1) | fail)
    go_ret
    exact ⟨rfl, HB0.out.trans HB1.out⟩
  | true =>
    obtain ⟨hrun, hkn⟩ := HV.out rfl
    have HW2 : Hid (∀ W, Below (w.drewN k).heap.size (w.drewN k) W → Below w.heap.size w W) := fun W hb => HB0.out.trans (hb.mono (Nat.le_refl _))
    have HD := Lib.hid (fun W (hb : Below (w.drewN k).heap.size (w.drewN k) W) => decoded_any A n c B l W a0 a1 a2 ((HR.out.drewN k).below (hb.mono hB)) (Nat.le_trans hB hb.size) (by omega) hrun hkn ((HE.out.below HB0.out HE.out.lt).below hb HE.out.lt))
    have HM := Lib.hid (fun W (hb : Below (w.drewN k).heap.size (w.drewN k) W) => nodeOf_any A n c B l W ((HR.out.drewN k).below (hb.mono hB)) (Nat.le_trans hB hb.size) hnc hc (by omega) hrun hkn)
    have HNB : Hid (∀ st, nodeOf l = some st → NB 1000000 st) := fun st h => node_bound h (by have := HLN.out; omega)
    clear HV hkn hrun
    generalize w.drewN k = w0 at *
    generalize nodeOf l = R at *
    cases R with
    | none =>
      go_wp2_with (first | (go_at_call 7; refine (HD.out _ (Below.refl _ _)).mono ?_; clear HD; rintro e w2 ⟨hb2, ⟨_, _, _, _, _, _, _, h, -⟩ | ⟨-, rfl⟩⟩; (cases h); have HB2 := Lib.hid hb2; clear hb2) | (go_at_call 8; refine (HM.out _ (below_alloc HB2.out _)).mono ?_; clear HM; rintro e w4 ⟨hb4, ⟨_, _, _, _, _, _, _, h, -⟩ | ⟨-, rfl⟩⟩; (cases h); have HB4 := Lib.hid (below_then (below_alloc HB2.out _) (below_alloc HB2.out _).size hb4); clear hb4) | (go_at_call 6; refine (HAW.out _).mono ?_; rintro e w5 ⟨rfl, hb5⟩; have HB5 := Lib.hid (below_then (below_alloc HB4.out _) (below_alloc HB4.out _).size hb5); clear hb5) | fail)
      go_ret
      exact ⟨rfl, HW2.out _ HB5.out⟩
    | some st =>
      have HSM := Lib.hid (same_read st)
      have HLK : Hid ((plMN (mn st)).links.length ≤ 1000000) := (by show ((mn st).links.map plML).length ≤ _; rw [List.length_map]; exact (len_mn (HNB.out st rfl)).2.1)
      go_wp2_with (first | (go_at_call 7; refine (HD.out _ (Below.refl _ _)).mono ?_; clear HD; rintro e w2 ⟨hb2, ⟨st2, A2, n2, c2, B2, m2, d2, h, rfl, ha2⟩ | ⟨h, -⟩⟩; rotate_left; (cases h); obtain rfl := Option.some.inj h; have HB2 := Lib.hid hb2; have HA2 := Lib.hid ha2; clear hb2 ha2 h) | (go_at_call 8; refine (HM.out _ (below_alloc HB2.out _)).mono ?_; clear HM; rintro e w4 ⟨hb4, ⟨st4, A4, n4, c4, B4, m4, d4, h, rfl, ha4⟩ | ⟨h, -⟩⟩; rotate_left; (cases h); obtain rfl := Option.some.inj h; have HB4 := Lib.hid (below_then (below_alloc HB2.out _) (below_alloc HB2.out _).size hb4); have HA4 := Lib.hid ha4; have HKZ := Lib.hid ((Blk.new w2 28 #[.bool st.has, .slice A2 n2 c2, .slice B2 m2 d2]).below hb4 (by simp)); have q0 := HKZ.out.cell 0; have q1 := HKZ.out.cell 1; have q2 := HKZ.out.cell 2; have ql := HKZ.out.lt; have HA24 := Lib.hid ((HA2.out.below ((below_one w2 _).trans (hb4.mono (by simp)))).more (Nat.le_trans (below_one w2 _).size hb4.size)); clear hb4 ha4 h) | (go_at_call 9; refine (same_any (plMN (mn st)) st _ _ w4.heap.size _ (HA24.out.below (below_one w4 _)) (HA4.out.below (below_one w4 _)) (by simp) HLK.out).mono ?_; rw [HSM.out]; rintro e w5 ⟨rfl, hb5⟩; have HB5 := Lib.hid (below_then (below_alloc HB4.out _) (below_alloc HB4.out _).size hb5); clear hb5) | (go_at_call 6; refine (HAW.out _).mono ?_; rintro e w6 ⟨rfl, hb6⟩; have HB6 := Lib.hid (below_then HB5.out HB5.out.size hb6); clear hb6) | fail)
      go_ret
      exact ⟨rfl, HW2.out _ HB6.out⟩
end Go.Proofs.YthgbhaackihbjaaDoor
