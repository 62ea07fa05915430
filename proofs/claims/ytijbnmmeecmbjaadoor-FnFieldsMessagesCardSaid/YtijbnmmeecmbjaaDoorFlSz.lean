/- The law FnFieldsSize: whatever the bytes, the call returns true. -/
import Derived.Test.YtijbnmmeecmbjaaDoorFlK
import Derived.Test.YtijbnmmeecmbjaaDoorFlQ
namespace Go.Proofs.YtijbnmmeecmbjaaDoor
open Go.RowKit

theorem MsgIs.bad {w w' : World} {R : Option FSt} {e : Ending} (h : MsgIs w R e w') (hw : whole R = none) : Below w.heap.size w w' ∧ e = .returned (.tuple #[.agg #[.int .i64 0, .slice none 0 0, .int .u64 0, .slice none 0 0, .int .u64 0, .int .u64 0], .bool false]) := by
  rcases h.ret with ⟨st, vd, vb, h1, h2, -⟩ | ⟨-, h2⟩
  · rw [whole_some h1 h2] at hw; cases hw
  · exact ⟨h.below, h2⟩
theorem MsgIs.good {w w' : World} {R : Option FSt} {e : Ending} {st : FSt} (h : MsgIs w R e w') (hw : whole R = some st) : Below w.heap.size w w' ∧ ∃ A c A2 c2, e = .returned (.tuple #[.agg #[.int .i64 (st.ty.getD 0), .slice A st.data.length c, .int .u64 (st.fsize : Int), .slice A2 st.sizes.length c2, .int .u64 (st.hash : Int), .int .u64 (st.fan : Int)], .bool true]) ∧ Reads w' w'.heap.size 1 A st.data.length (u8s st.data) ∧ w'.ownsRow w.heap.size 25 1 (.slice A2 st.sizes.length c2) st.sizes.length (u64s st.sizes) := by
  rcases h.ret with ⟨st', vd, vb, h1, h2, h3, h4, h5⟩ | ⟨h1, -⟩
  · rw [whole_some h1 h2] at hw
    obtain rfl := Option.some.inj hw
    obtain ⟨A, c, rfl, -, hr⟩ := own_shape h4
    obtain ⟨A2, c2, rfl, -, -⟩ := own_shape h5
    exact ⟨h.below, A, c, A2, c2, h3, hr, h5⟩
  · rw [whole_none h1] at hw; cases hw
set_option maxRecDepth 100000 in
set_option maxHeartbeats 8000000 in
theorem fieldsSize_any (A : Option Addr) (n c B : Nat) (l : List UInt8) (w : World) (a0 a1 a2 a3 : Addr) (hr : Reads w B 1 A n (u8s l)) (hB : B ≤ w.heap.size) (hnc : n ≤ c) (hc : c ≤ 9223372036854775807) (he : ErrsF w a0 a1 a2 a3) :
    Calls Tryd.prog 3 #[.slice A n c] w (Yes w) := by
  have HE := Lib.hid he
  have HR := Lib.hid hr
  have HAW : Hid (∀ W, Below w.heap.size w W → Calls Tryd.prog 7 #[] W (Yes W)) := fun W hb => folderAwake_any a0 a1 a2 a3 W (he.below hb he.lt)
  have HKN := Lib.hid (known_any A n c B l w hr hnc hc)
  clear he hr
  by_cases hbig : 2147483647 < n
  · go_enter Tryd.func3, Tryd.ntmps3
    go_wp2
    go_ret
    exact ⟨rfl, Below.refl _ _⟩
  by_cases hlong : 2000 < n
  · go_enter Tryd.func3, Tryd.ntmps3
    go_wp2_with (first | (go_at_call 7; refine (HAW.out _ (Below.refl _ _)).mono ?_; rintro e w1 ⟨rfl, hb1⟩; have HB1 := Lib.hid hb1; clear hb1) | fail)
    go_ret
    exact ⟨rfl, HB1.out⟩
  have hdl0 : decide ((2000 : Int) < (n : Int)) = false := decide_eq_false (by omega)
  go_enter Tryd.func3, Tryd.ntmps3
  go_upto_if 21 with (first | (go_at_call 6; refine HKN.out.mono ?_; clear HKN; rintro e w1 ⟨⟨v, rfl, hv⟩, k, rfl⟩; have HV := Lib.hid hv; clear hv) | fail)
  have HB0 := Lib.hid (below_drewN (Below.refl w.heap.size w) k)
  cases v with
  | false =>
    go_wp2_with (first | (go_at_call 7; refine (HAW.out _ HB0.out).mono ?_; rintro e w1 ⟨rfl, hb1⟩; have HB1 := Lib.hid hb1; clear hb1) | fail)
    go_ret
    exact ⟨rfl, HB0.out.trans HB1.out⟩
  | true =>
    obtain ⟨hrun, hkn⟩ := HV.out rfl
    have hask : Ask0 (w.drewN k) A n B l a0 a1 a2 a3 := ⟨HR.out.drewN k, hB, by omega, hrun, hkn, HE.out.below HB0.out HE.out.lt⟩
    have HASK := Lib.hid hask
    have hln := hask.len
    have HSZ := Lib.hid (fun W (hb : Below (w.drewN k).heap.size (w.drewN k) W) => implSize_any (c := c) (hask.below hb))
    have HUW := Lib.hid (fun W (hb : Below (w.drewN k).heap.size (w.drewN k) W) => unwrapped_any (c := c) (hask.below hb) (fun d hd => by
      cases hw : whole (ms l.length FSt.zero l) with
      | none => simp [dataOf, hw] at hd
      | some st =>
        simp [dataOf, hw] at hd
        subst hd
        exact whole_data hw (by omega)))
    have HMS := Lib.hid (fun W (hb : Below (w.drewN k).heap.size (w.drewN k) W) => message_any A n c B l W (hask.below hb).rd (hask.below hb).lt hnc hc (by omega) hrun hkn)
    have hdl : ∀ st, whole (ms l.length FSt.zero l) = some st → st.data.length ≤ 1000000 := fun st hw => whole_data hw (by omega)
    clear hask HV hkn hrun
    generalize ms l.length FSt.zero l = R at *
    cases hw : whole R with
    | none =>
      have hs : sizeOf_ R = none := by simp [sizeOf_, hw]
      have hd : dataOf R = none := by simp [dataOf, hw]
      rw [hs] at HSZ
      rw [hd] at HUW
      have HM : Hid (∀ W, Below (w.drewN k).heap.size (w.drewN k) W → Calls Tryd.prog 10 #[.slice A n c] W fun e w' => Below W.heap.size W w' ∧ e = .returned (.tuple #[.agg #[.int .i64 0, .slice none 0 0, .int .u64 0, .slice none 0 0, .int .u64 0, .int .u64 0], .bool false])) := fun W hb => (HMS.out W hb).mono fun e w' h => h.bad hw
      clear hs hd hdl HMS
      go_wp2_with (first | (go_at_call 8; refine (HSZ.out _ (Below.refl _ _)).mono ?_; clear HSZ; rintro e w2 ⟨rfl, hb2⟩; have HB2 := Lib.hid hb2; clear hb2) | (go_at_call 9; refine (HUW.out _ HB2.out).mono ?_; clear HUW; rintro e w3 ⟨hb3, A3, c3, rfl, hc3, hr3⟩; have HB3 := Lib.hid (below_then HB2.out HB2.out.size hb3); clear hb3 hc3 hr3) | (go_at_call 10; refine (HM.out _ HB3.out).mono ?_; clear HM; rintro e w4 ⟨hb4, rfl⟩; have HB4 := Lib.hid (below_then HB3.out HB3.out.size hb4); clear hb4) | (go_at_call 7; refine (HAW.out _ (HB0.out.trans (below_alloc HB4.out _))).mono ?_; rintro e w5 ⟨rfl, hb5⟩; have HB5 := Lib.hid (below_then (below_alloc HB4.out _) (below_alloc HB4.out _).size hb5); clear hb5) | fail)
      go_ret
      exact ⟨rfl, HB0.out.trans HB5.out⟩
    | some st =>
      have hd : dataOf R = some st.data := by simp [dataOf, hw]
      have hs : sizeOf_ R = szOf (st.ty.getD 0) st.fsize st.data.length := by simp [sizeOf_, hw]
      have hdl1 := hdl st hw
      rw [hs] at HSZ
      rw [hd] at HUW
      have HM : Hid (∀ W, Below (w.drewN k).heap.size (w.drewN k) W → Calls Tryd.prog 10 #[.slice A n c] W fun e w' => Below W.heap.size W w' ∧ ∃ A c A2 c2, e = .returned (.tuple #[.agg #[.int .i64 (st.ty.getD 0), .slice A st.data.length c, .int .u64 (st.fsize : Int), .slice A2 st.sizes.length c2, .int .u64 (st.hash : Int), .int .u64 (st.fan : Int)], .bool true]) ∧ Reads w' w'.heap.size 1 A st.data.length (u8s st.data) ∧ w'.ownsRow W.heap.size 25 1 (.slice A2 st.sizes.length c2) st.sizes.length (u64s st.sizes)) := fun W hb => (HMS.out W hb).mono fun e w' h => h.good hw
      have HSO := Lib.hid (fun A c h f A2 n2 c2 W => sizeOf_any (st.ty.getD 0) A st.data.length c st.fsize h f A2 n2 c2 W hdl1)
      have HSB := Lib.hid (fun (A1 A2 : Option Addr) (c1 c2 B1 B2 : Nat) (w : World) h1 h2 => sameBytes_any A1 A2 st.data.length c1 st.data.length c2 B1 B2 st.data st.data w h1 h2)
      simp only [szV] at HSO
      simp only [beq_self_eq_true] at HSB
      clear hs hd hdl HMS hw
      generalize st.ty.getD 0 = ty at *
      generalize st.fsize = fs at *
      generalize st.hash = hh at *
      generalize st.fan = ff at *
      generalize hsd : st.data = sd at *
      generalize st.sizes = ss at *
      generalize ss.length = sl at *
      cases hz : szOf ty fs sd.length with
      | none =>
        rw [hz] at HSZ
        rw [hz] at HSO
        clear hz
        go_wp2_with (first | (go_at_call 8; refine (HSZ.out _ (Below.refl _ _)).mono ?_; clear HSZ; rintro e w2 ⟨rfl, hb2⟩; have HB2 := Lib.hid hb2; clear hb2) | (go_at_call 9; refine (HUW.out _ HB2.out).mono ?_; clear HUW; rintro e w3 ⟨hb3, A3, c3, rfl, hc3, hr3⟩; have HB3 := Lib.hid (below_then HB2.out HB2.out.size hb3); have HR3 := Lib.hid hr3; clear hb3 hc3 hr3) | (go_at_call 10; refine (HM.out _ HB3.out).mono ?_; clear HM; rintro e w4 ⟨hb4, A4, c4, A5, c5, rfl, hr4, -⟩; have HB4 := Lib.hid (below_then HB3.out HB3.out.size hb4); have HR34 := Lib.hid (HR3.out.below hb4); have HL34 := Lib.hid hb4.size; have HR4 := Lib.hid hr4; clear hb4 hr4) | (go_at_call 11; refine (HSO.out _ _ _ _ _ _ _ _).mono ?_; clear HSO; rintro e w5 ⟨rfl, hb5⟩; have hb45 := (below_one w4 (.cells #[.int .i64 ty, .slice A4 sd.length c4, .int .u64 (fs : Int), .slice A5 sl c5, .int .u64 (hh : Int), .int .u64 (ff : Int)] 32)).trans (hb5.mono (by simp)); have hx0 : w5.cell? ⟨w4.heap.size, 1, none⟩ = some (.slice A4 sd.length c4) := (hb5.cell (p := ⟨w4.heap.size, 1, none⟩) (by simp)).trans ((Blk.new w4 32 #[.int .i64 ty, .slice A4 sd.length c4, .int .u64 (fs : Int), .slice A5 sl c5, .int .u64 (hh : Int), .int .u64 (ff : Int)]).cell 1); have HB5 := Lib.hid (below_then HB4.out HB4.out.size hb45); have HR35 := Lib.hid (HR34.out.below (hb45.mono HL34.out)); have HR45 := Lib.hid (HR4.out.below hb45); clear hb5 hb45) | (go_at_call 12; refine (HSB.out _ _ _ _ _ _ _ HR35.out HR45.out).mono ?_; clear HSB; rintro e w6 ⟨rfl, rfl⟩) | (go_at_call 7; refine (HAW.out _ (HB0.out.trans HB5.out)).mono ?_; rintro e w7 ⟨rfl, hb7⟩; have HB7 := Lib.hid (below_then HB5.out HB5.out.size hb7); clear hb7) | fail)
        go_ret
        exact ⟨rfl, HB0.out.trans HB7.out⟩
      | some x =>
        rw [hz] at HSZ
        rw [hz] at HSO
        clear hz
        go_wp2_with (first | (go_at_call 8; refine (HSZ.out _ (Below.refl _ _)).mono ?_; clear HSZ; rintro e w2 ⟨rfl, hb2⟩; have HB2 := Lib.hid hb2; clear hb2) | (go_at_call 9; refine (HUW.out _ HB2.out).mono ?_; clear HUW; rintro e w3 ⟨hb3, A3, c3, rfl, hc3, hr3⟩; have HB3 := Lib.hid (below_then HB2.out HB2.out.size hb3); have HR3 := Lib.hid hr3; clear hb3 hc3 hr3) | (go_at_call 10; refine (HM.out _ HB3.out).mono ?_; clear HM; rintro e w4 ⟨hb4, A4, c4, A5, c5, rfl, hr4, -⟩; have HB4 := Lib.hid (below_then HB3.out HB3.out.size hb4); have HR34 := Lib.hid (HR3.out.below hb4); have HL34 := Lib.hid hb4.size; have HR4 := Lib.hid hr4; clear hb4 hr4) | (go_at_call 11; refine (HSO.out _ _ _ _ _ _ _ _).mono ?_; clear HSO; rintro e w5 ⟨rfl, hb5⟩; have hb45 := (below_one w4 (.cells #[.int .i64 ty, .slice A4 sd.length c4, .int .u64 (fs : Int), .slice A5 sl c5, .int .u64 (hh : Int), .int .u64 (ff : Int)] 32)).trans (hb5.mono (by simp)); have hx0 : w5.cell? ⟨w4.heap.size, 1, none⟩ = some (.slice A4 sd.length c4) := (hb5.cell (p := ⟨w4.heap.size, 1, none⟩) (by simp)).trans ((Blk.new w4 32 #[.int .i64 ty, .slice A4 sd.length c4, .int .u64 (fs : Int), .slice A5 sl c5, .int .u64 (hh : Int), .int .u64 (ff : Int)]).cell 1); have HB5 := Lib.hid (below_then HB4.out HB4.out.size hb45); have HR35 := Lib.hid (HR34.out.below (hb45.mono HL34.out)); have HR45 := Lib.hid (HR4.out.below hb45); clear hb5 hb45) | (go_at_call 12; refine (HSB.out _ _ _ _ _ _ _ HR35.out HR45.out).mono ?_; clear HSB; rintro e w6 ⟨rfl, rfl⟩) | (go_at_call 7; refine (HAW.out _ (HB0.out.trans HB5.out)).mono ?_; rintro e w7 ⟨rfl, hb7⟩; have HB7 := Lib.hid (below_then HB5.out HB5.out.size hb7); clear hb7) | fail)
        go_ret
        exact ⟨rfl, HB0.out.trans HB7.out⟩
end Go.Proofs.YtijbnmmeecmbjaaDoor
