/- The sizes of the pieces of a message. (Written by mgsgen.py.) -/
import Derived.Deep.Cut
import Derived.Test.YtocdbecakefnnaaDoorMgB
namespace Go.Proofs.YtocdbecakefnnaaDoor
open Go.RowKit

set_option maxRecDepth 100000 in
theorem keyString_any (s : ByteArray) (w : World) : Calls Tryd.prog 69 #[.agg #[.string s]] w fun e w' => e = .returned (.string s) ∧ Below w.heap.size w w' := by
  go_enter Tryd.func69, Tryd.ntmps69
  go_wp2
  go_ret
  exact ⟨rfl, below_one w _⟩
set_option maxRecDepth 100000 in
theorem cidSize_any (l : List UInt8) (b o : Nat) (w : World) (hc : w.cell? ⟨b, o, none⟩ = some (.string ⟨l.toArray⟩)) : Calls Tryd.prog 62 #[.pointer (some ⟨b, o, none⟩)] w fun e w' => e = .returned (.int .i64 (l.length : Nat)) ∧ Below w.heap.size w w' := by
  obtain ⟨S, hS⟩ : ∃ S : ByteArray, S = ⟨l.toArray⟩ := ⟨_, rfl⟩
  rw [← hS] at hc
  have hz : S.size = l.length := by rw [hS]; exact List.size_toArray
  clear hS
  go_enter Tryd.func62, Tryd.ntmps62
  go_wp2_with (first | (go_at_call 69; (with_reducible refine (keyString_any _ _).mono ?_); rintro e w1 ⟨rfl, hb⟩; have HB := Lib.hid hb; clear hb) | fail)
  go_ret
  exact ⟨rfl, HB.out⟩
set_option maxRecDepth 100000 in
set_option maxHeartbeats 4000000 in
theorem entSize_any (x : Ent) (b o B : Nat) (w : World) (hl : x.cid.length ≤ 100000) (hx : ObjB w B b o (pentF x)) (hB : B ≤ w.heap.size) :
    Calls Tryd.prog 60 #[.pointer (some ⟨b, o, none⟩)] w fun e w' => e = .returned (.int .i64 ((entB x).length : Nat)) ∧ Below w.heap.size w w' := by
  have k0 := hx.lit (i := 0) rfl
  simp only [Nat.add_zero] at k0
  have HX := Lib.hid hx
  have HC := Lib.hid (cidSize_any x.cid b o w k0)
  obtain ⟨u0, hu0⟩ : ∃ u, (uv x.cid.length).length = u := ⟨_, rfl⟩
  have hu1 := uv_le x.cid.length (by omega)
  rw [hu0] at hu1
  have HU := Lib.hid hu0
  obtain ⟨n0, hn0⟩ : ∃ u, x.cid.length = u := ⟨_, rfl⟩
  rw [hn0] at HC HU
  have HLEN : Hid ((entB x).length = 1 + n0 + u0 + (numB 16 x.prio).length + (flagB 24 x.cancel).length + (numB 32 x.type).length + (flagB 40 x.dont).length) := Lib.hid (by unfold entB; simp only [List.length_append, pieceB_length]; rw [hu0, hn0]; try omega)
  rw [hn0] at hl
  clear hx hu0 hn0 k0
  go_enter Tryd.func60, Tryd.ntmps60
  go_upto_if 23 with (first | (go_at_call 62; (with_reducible refine HC.out.mono ?_); rintro e w1 ⟨rfl, hb⟩; have HB := Lib.hid hb; have kk := (HX.out.below (hb.mono hB)).lit (i := 1) rfl; clear hb) | (go_at_call 45; (with_reducible refine (sov_any n0 _ (by omega)).mono ?_); rw [HU.out]; rintro e w7 ⟨rfl, rfl⟩) | fail)
  go_cut [2] from 23 (fun s2 wx => s2 = .int .i64 ((1 + n0 + u0 + (numB 16 x.prio).length : Nat) : Int) ∧ Hid (Below w.heap.size w wx))
  case first =>
    have hle := numB_le 16 x.prio
    by_cases hz : x.prio = 0
    · rw [hz] at kk
      have e0 : (numB 16 x.prio).length = 0 := by rw [hz]; rfl
      have E0 := Lib.hid e0
      clear e0 hle
      go_wp2
      go_meet
      exact ⟨by rw [E0.out]; exact num_i64 (by omega), HB.out⟩
    · have hw := u64z_wrap x.prio
      have hlt := u64z_lt x.prio
      have e0 : (numB 16 x.prio).length = 1 + (uv (u64z x.prio)).length := by rw [numB_some _ hz, List.length_cons]; omega
      have hv := uv_le (u64z x.prio) hlt
      generalize u64z x.prio = y at *
      obtain ⟨u2, hu2⟩ : ∃ u, (uv y).length = u := ⟨_, rfl⟩
      rw [hu2] at e0 hv
      have E0 := Lib.hid e0
      clear HU
      have HU := Lib.hid hu2
      clear e0 hu2 hle
      go_wp2_with (first | (go_at_call 45; (with_reducible refine (sov_any y _ (by omega)).mono ?_); rw [HU.out]; rintro e w7 ⟨rfl, rfl⟩) | fail)
      go_meet
      exact ⟨by rw [E0.out]; exact num_i64 (by omega), HB.out⟩
  case rest =>
    obtain ⟨rfl, HB0⟩ := hcut
    clear kk HB
    have hle0 := numB_le 16 x.prio
    obtain ⟨m0, hm0⟩ : ∃ u, (numB 16 x.prio).length = u := ⟨_, rfl⟩
    rw [hm0] at hle0
    rw [hm0] at HLEN
    rw [hm0]
    clear hm0
    have kk := (HX.out.below (HB0.out.mono hB)).lit (i := 2) rfl
    go_upto_if 36 with fail
    go_cut [2] from 36 (fun s2 wx => s2 = .int .i64 ((1 + n0 + u0 + m0 + (flagB 24 x.cancel).length : Nat) : Int) ∧ Hid (Below w.heap.size w wx))
    case first =>
      cases hb0 : x.cancel with
      | true =>
        rw [hb0] at kk
        have HFL := Lib.hid hb0
        clear hb0
        go_wp2
        go_meet
        exact ⟨by first | exact num_i64 (by simp [flagB, HFL.out]; omega) | exact num_i64 (by simp [flagB, HFL.out]), HB0.out⟩
      | false =>
        rw [hb0] at kk
        have HFL := Lib.hid hb0
        clear hb0
        go_wp2
        go_meet
        exact ⟨by first | exact num_i64 (by simp [flagB, HFL.out]; omega) | exact num_i64 (by simp [flagB, HFL.out]), HB0.out⟩
    case rest =>
      obtain ⟨rfl, HB1⟩ := hcut
      clear kk HB0
      have hle1 := flagB_le 24 x.cancel
      obtain ⟨m1, hm1⟩ : ∃ u, (flagB 24 x.cancel).length = u := ⟨_, rfl⟩
      rw [hm1] at hle1
      rw [hm1] at HLEN
      rw [hm1]
      clear hm1
      have kk := (HX.out.below (HB1.out.mono hB)).lit (i := 3) rfl
      go_upto_if 43 with fail
      go_cut [2] from 43 (fun s2 wx => s2 = .int .i64 ((1 + n0 + u0 + m0 + m1 + (numB 32 x.type).length : Nat) : Int) ∧ Hid (Below w.heap.size w wx))
      case first =>
        have hle := numB_le 32 x.type
        by_cases hz : x.type = 0
        · rw [hz] at kk
          have e0 : (numB 32 x.type).length = 0 := by rw [hz]; rfl
          have E0 := Lib.hid e0
          clear e0 hle
          go_wp2
          go_meet
          exact ⟨by rw [E0.out]; exact num_i64 (by omega), HB1.out⟩
        · have hw := u64z_wrap x.type
          have hlt := u64z_lt x.type
          have e0 : (numB 32 x.type).length = 1 + (uv (u64z x.type)).length := by rw [numB_some _ hz, List.length_cons]; omega
          have hv := uv_le (u64z x.type) hlt
          generalize u64z x.type = y at *
          obtain ⟨u2, hu2⟩ : ∃ u, (uv y).length = u := ⟨_, rfl⟩
          rw [hu2] at e0 hv
          have E0 := Lib.hid e0
          clear HU
          have HU := Lib.hid hu2
          clear e0 hu2 hle
          go_wp2_with (first | (go_at_call 45; (with_reducible refine (sov_any y _ (by omega)).mono ?_); rw [HU.out]; rintro e w7 ⟨rfl, rfl⟩) | fail)
          go_meet
          exact ⟨by rw [E0.out]; exact num_i64 (by omega), HB1.out⟩
      case rest =>
        obtain ⟨rfl, HB2⟩ := hcut
        clear kk HB1
        have hle2 := numB_le 32 x.type
        obtain ⟨m2, hm2⟩ : ∃ u, (numB 32 x.type).length = u := ⟨_, rfl⟩
        rw [hm2] at hle2
        rw [hm2] at HLEN
        rw [hm2]
        clear hm2
        have kk := (HX.out.below (HB2.out.mono hB)).lit (i := 4) rfl
        go_upto_if 56 with fail
        go_cut [2] from 56 (fun s2 wx => s2 = .int .i64 ((1 + n0 + u0 + m0 + m1 + m2 + (flagB 40 x.dont).length : Nat) : Int) ∧ Hid (Below w.heap.size w wx))
        case first =>
          cases hb0 : x.dont with
          | true =>
            rw [hb0] at kk
            have HFL := Lib.hid hb0
            clear hb0
            go_wp2
            go_meet
            exact ⟨by first | exact num_i64 (by simp [flagB, HFL.out]; omega) | exact num_i64 (by simp [flagB, HFL.out]), HB2.out⟩
          | false =>
            rw [hb0] at kk
            have HFL := Lib.hid hb0
            clear hb0
            go_wp2
            go_meet
            exact ⟨by first | exact num_i64 (by simp [flagB, HFL.out]; omega) | exact num_i64 (by simp [flagB, HFL.out]), HB2.out⟩
        case rest =>
          obtain ⟨rfl, HB3⟩ := hcut
          clear kk HB2
          have hle3 := flagB_le 40 x.dont
          obtain ⟨m3, hm3⟩ : ∃ u, (flagB 40 x.dont).length = u := ⟨_, rfl⟩
          rw [hm3] at hle3
          rw [hm3] at HLEN
          rw [hm3]
          clear hm3
          go_wp2
          go_ret
          exact ⟨by rw [HLEN.out]; rfl, HB3.out⟩
set_option maxRecDepth 100000 in
set_option maxHeartbeats 4000000 in
theorem preSize_any (x : Pre) (b o B : Nat) (w : World) (hl : x.cid.length ≤ 100000) (hx : ObjB w B b o (ppreF x)) (hB : B ≤ w.heap.size) :
    Calls Tryd.prog 47 #[.pointer (some ⟨b, o, none⟩)] w fun e w' => e = .returned (.int .i64 ((preB x).length : Nat)) ∧ Below w.heap.size w w' := by
  have k0 := hx.lit (i := 0) rfl
  simp only [Nat.add_zero] at k0
  have HX := Lib.hid hx
  have HC := Lib.hid (cidSize_any x.cid b o w k0)
  obtain ⟨u0, hu0⟩ : ∃ u, (uv x.cid.length).length = u := ⟨_, rfl⟩
  have hu1 := uv_le x.cid.length (by omega)
  rw [hu0] at hu1
  have HU := Lib.hid hu0
  obtain ⟨n0, hn0⟩ : ∃ u, x.cid.length = u := ⟨_, rfl⟩
  rw [hn0] at HC HU
  have HLEN : Hid ((preB x).length = 1 + n0 + u0 + (numB 16 x.type).length) := Lib.hid (by unfold preB; simp only [List.length_append, pieceB_length]; rw [hu0, hn0]; try omega)
  rw [hn0] at hl
  clear hx hu0 hn0 k0
  go_enter Tryd.func47, Tryd.ntmps47
  go_upto_if 23 with (first | (go_at_call 62; (with_reducible refine HC.out.mono ?_); rintro e w1 ⟨rfl, hb⟩; have HB := Lib.hid hb; have kk := (HX.out.below (hb.mono hB)).lit (i := 1) rfl; clear hb) | (go_at_call 45; (with_reducible refine (sov_any n0 _ (by omega)).mono ?_); rw [HU.out]; rintro e w7 ⟨rfl, rfl⟩) | fail)
  go_cut [2] from 23 (fun s2 wx => s2 = .int .i64 ((1 + n0 + u0 + (numB 16 x.type).length : Nat) : Int) ∧ Hid (Below w.heap.size w wx))
  case first =>
    have hle := numB_le 16 x.type
    by_cases hz : x.type = 0
    · rw [hz] at kk
      have e0 : (numB 16 x.type).length = 0 := by rw [hz]; rfl
      have E0 := Lib.hid e0
      clear e0 hle
      go_wp2
      go_meet
      exact ⟨by rw [E0.out]; exact num_i64 (by omega), HB.out⟩
    · have hw := u64z_wrap x.type
      have hlt := u64z_lt x.type
      have e0 : (numB 16 x.type).length = 1 + (uv (u64z x.type)).length := by rw [numB_some _ hz, List.length_cons]; omega
      have hv := uv_le (u64z x.type) hlt
      generalize u64z x.type = y at *
      obtain ⟨u2, hu2⟩ : ∃ u, (uv y).length = u := ⟨_, rfl⟩
      rw [hu2] at e0 hv
      have E0 := Lib.hid e0
      clear HU
      have HU := Lib.hid hu2
      clear e0 hu2 hle
      go_wp2_with (first | (go_at_call 45; (with_reducible refine (sov_any y _ (by omega)).mono ?_); rw [HU.out]; rintro e w7 ⟨rfl, rfl⟩) | fail)
      go_meet
      exact ⟨by rw [E0.out]; exact num_i64 (by omega), HB.out⟩
  case rest =>
    obtain ⟨rfl, HB0⟩ := hcut
    clear kk HB
    have hle0 := numB_le 16 x.type
    obtain ⟨m0, hm0⟩ : ∃ u, (numB 16 x.type).length = u := ⟨_, rfl⟩
    rw [hm0] at hle0
    rw [hm0] at HLEN
    rw [hm0]
    clear hm0
    go_wp2
    go_ret
    exact ⟨by rw [HLEN.out]; rfl, HB0.out⟩
end Go.Proofs.YtocdbecakefnnaaDoor
