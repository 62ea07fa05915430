/- MarshalToSizedBuffer of the pieces of a message: their bytes are laid at the buffer's end. (Written by mputgen.py.) -/
import Derived.Test.YtocdbecakefnnaaDoorMgC
namespace Go.Proofs.YtocdbecakefnnaaDoor
open Go.RowKit
set_option linter.unusedSimpArgs false

/-- A place ahead of what is written can be written. -/
theorem PutSt.place {w wx : World} {g n i : Nat} {L S : List UInt8} (h : PutSt w g n L S i wx) (j : Nat) (hj : j < n) : ∃ old, wx.cell? ⟨g, j, none⟩ = some old := by
  have h1 := h.fit
  have h2 := h.len
  have hl : (put L i S).length = L.length := put_length L i S (by omega)
  exact ⟨_, blk_cell h.blk j (by omega)⟩
theorem entB_len (x : Ent) : (entB x).length = 1 + x.cid.length + (uv x.cid.length).length + ((numB 16 x.prio).length + ((flagB 24 x.cancel).length + ((numB 32 x.type).length + (flagB 40 x.dont).length))) := by unfold entB; simp only [List.length_append, pieceB_length]
theorem preB_len (x : Pre) : (preB x).length = 1 + x.cid.length + (uv x.cid.length).length + (numB 16 x.type).length := by unfold preB; simp only [List.length_append, pieceB_length]
set_option maxRecDepth 100000 in
set_option maxHeartbeats 8000000 in
theorem entPut_any (x : Ent) (b o B g n c : Nat) (L : List UInt8) (w : World) (hx : ObjB w B b o (pentF x)) (hBg : B ≤ g) (hb : Blk w g 5 (u8s L).toArray) (hn : n ≤ L.length) (hn2 : n ≤ 140737488355328) (hnc : n ≤ c) (hc0 : 0 < x.cid.length) (hfit : (entB x).length ≤ n) :
    Calls Tryd.prog 68 #[.pointer (some ⟨b, o, none⟩), .slice (some ⟨g, 0, none⟩) n c] w (PutAll w g n L (entB x)) := by
  have HLEN := Lib.hid (entB_len x)
  rw [entB_len] at hfit
  have HFIT := Lib.hid hfit
  have HX := Lib.hid hx
  have hbg : b < g := Nat.lt_of_lt_of_le hx.lt hBg
  have HST : Hid (PutSt w g n L [] n w) := Lib.hid (PutSt.start hb hn)
  clear hx hb hfit
  go_enter Tryd.func68, Tryd.ntmps68
  have kk := (HX.out.below (HST.out.only.mono hBg)).lit (i := 4) rfl
  go_upto_if 18 with fail
  go_cut [6] from 18 (fun s6 wx => ∃ i : Nat, s6 = .int .i64 i ∧ Hid (PutSt w g n L (flagB 40 x.dont) i wx))
  case first =>
    cases hb0 : x.dont with
    | false =>
      rw [hb0] at kk
      have e0 : flagB 40 x.dont = [] := by rw [hb0]; rfl
      have E0 := Lib.hid e0
      clear e0 hb0
      go_wp2
      go_meet
      exact ⟨n, rfl, by first | exact HST | (rw [E0.out]; exact HST)⟩
    | true =>
      rw [hb0] at kk
      have e0 : flagB 40 x.dont = [40, 1] := by rw [hb0]; rfl
      have hf := HFIT.out
      have hl1 := HST.out.len
      rw [e0] at hf
      (try simp only [List.length_append, List.length_nil, List.length_cons] at hl1)
      simp only [List.length_cons, List.length_nil] at hf
      obtain ⟨i2, hi2⟩ : ∃ i2, i2 + 1 + 1 = n := ⟨n - 2, by omega⟩
      have hin1 : i2 + 1 < n := by omega
      have hin2 : i2 < n := by omega
      have e1 : (n : Int) - 1 = ((i2 + 1 : Nat) : Int) := by omega
      have h0 : PutSt w g n L ([]) (i2 + 1 + 1) w := by rw [hi2]; exact HST.out
      have h2 := h0.key 1 (v := 1) rfl
      obtain ⟨old1, hc1⟩ := h0.place (i2 + 1) hin1
      obtain ⟨old2, hc2⟩ := h2.place i2 hin2
      have hf1 := h0.blk.frozen (i2 + 1)
      have hf2 := h2.blk.frozen i2
      have kk2 := ((h2.only.cell (p := ⟨b, o + 4, none⟩) hbg).trans ((h0.only.cell (p := ⟨b, o + 4, none⟩) hbg).symm)).trans kk
      have HK := Lib.hid (h2.key 40 (v := 40) rfl)
      have E0 := Lib.hid e0
      clear hf hl1 hi2 e0 h0 h2 hb0
      go_wp2
      go_meet
      exact ⟨i2, by go_num, by first | exact HK | (rw [E0.out]; exact HK)⟩
  case rest =>
    obtain ⟨i, rfl, st1⟩ := hcut
    clear HST kk
    have HST := st1
    clear st1
    have kk := (HX.out.below (HST.out.only.mono hBg)).lit (i := 3) rfl
    go_upto_if 40 with fail
    go_cut [6] from 40 (fun s6 wx => ∃ i : Nat, s6 = .int .i64 i ∧ Hid (PutSt w g n L (numB 32 x.type ++ (flagB 40 x.dont)) i wx))
    case first =>
      by_cases hz : x.type = 0
      · rw [hz] at kk
        have e0 : numB 32 x.type = [] := by rw [hz]; rfl
        have E0 := Lib.hid e0
        clear e0
        go_wp2
        go_meet
        exact ⟨i, rfl, by rw [E0.out]; exact HST⟩
      · have hw := u64z_wrap x.type
        have hlt := u64z_lt x.type
        have e0 : numB 32 x.type = 32 :: uv (u64z x.type) := numB_some _ hz
        generalize u64z x.type = y at hw hlt e0
        have hf := HFIT.out
        have hl1 := HST.out.len
        rw [e0, List.length_cons] at hf
        (try simp only [List.length_append, List.length_nil] at hl1)
        obtain ⟨i2, hi2⟩ : ∃ i2, i2 + 1 + (uv y).length = i := ⟨i - (1 + (uv y).length), by omega⟩
        have hin : i2 < n := by omega
        have HC := Lib.hid (HST.out.call (c := c) hlt hi2 hn2)
        have E0 := Lib.hid e0
        clear hf hl1 hi2 e0 hlt
        go_wp2_with (first | (go_at_call 56; (with_reducible refine HC.out.mono ?_); rintro e w2 ⟨rfl, hst2, ⟨old, hc2⟩, hf2⟩; have HST2 := Lib.hid hst2; clear hst2) | fail)
        go_meet
        exact ⟨i2, by go_num, Lib.hid (by rw [E0.out]; first | exact HST2.out.key 32 rfl | (have h := HST2.out.key 32 (v := 32) rfl; rw [List.append_nil] at h; exact h))⟩
    case rest =>
      obtain ⟨i, rfl, st1⟩ := hcut
      clear HST kk
      have HST := st1
      clear st1
      have kk := (HX.out.below (HST.out.only.mono hBg)).lit (i := 2) rfl
      go_upto_if 57 with fail
      go_cut [6] from 57 (fun s6 wx => ∃ i : Nat, s6 = .int .i64 i ∧ Hid (PutSt w g n L (flagB 24 x.cancel ++ (numB 32 x.type ++ (flagB 40 x.dont))) i wx))
      case first =>
        cases hb0 : x.cancel with
        | false =>
          rw [hb0] at kk
          have e0 : flagB 24 x.cancel = [] := by rw [hb0]; rfl
          have E0 := Lib.hid e0
          clear e0 hb0
          go_wp2
          go_meet
          exact ⟨i, rfl, by first | exact HST | (rw [E0.out]; exact HST)⟩
        | true =>
          rw [hb0] at kk
          have e0 : flagB 24 x.cancel = [24, 1] := by rw [hb0]; rfl
          have hf := HFIT.out
          have hl1 := HST.out.len
          rw [e0] at hf
          (try simp only [List.length_append, List.length_nil, List.length_cons] at hl1)
          simp only [List.length_cons, List.length_nil] at hf
          obtain ⟨i2, hi2⟩ : ∃ i2, i2 + 1 + 1 = i := ⟨i - 2, by omega⟩
          have hin1 : i2 + 1 < n := by omega
          have hin2 : i2 < n := by omega
          have e1 : (i : Int) - 1 = ((i2 + 1 : Nat) : Int) := by omega
          have h0 : PutSt w g n L (numB 32 x.type ++ (flagB 40 x.dont)) (i2 + 1 + 1) wc := by rw [hi2]; exact HST.out
          have h2 := h0.key 1 (v := 1) rfl
          obtain ⟨old1, hc1⟩ := h0.place (i2 + 1) hin1
          obtain ⟨old2, hc2⟩ := h2.place i2 hin2
          have hf1 := h0.blk.frozen (i2 + 1)
          have hf2 := h2.blk.frozen i2
          have kk2 := ((h2.only.cell (p := ⟨b, o + 2, none⟩) hbg).trans ((h0.only.cell (p := ⟨b, o + 2, none⟩) hbg).symm)).trans kk
          have HK := Lib.hid (h2.key 24 (v := 24) rfl)
          have E0 := Lib.hid e0
          clear hf hl1 hi2 e0 h0 h2 hb0
          go_wp2
          go_meet
          exact ⟨i2, by go_num, by first | exact HK | (rw [E0.out]; exact HK)⟩
      case rest =>
        obtain ⟨i, rfl, st1⟩ := hcut
        clear HST kk
        have HST := st1
        clear st1
        have kk := (HX.out.below (HST.out.only.mono hBg)).lit (i := 1) rfl
        go_upto_if 79 with fail
        go_cut [6] from 79 (fun s6 wx => ∃ i : Nat, s6 = .int .i64 i ∧ Hid (PutSt w g n L (numB 16 x.prio ++ (flagB 24 x.cancel ++ (numB 32 x.type ++ (flagB 40 x.dont)))) i wx))
        case first =>
          by_cases hz : x.prio = 0
          · rw [hz] at kk
            have e0 : numB 16 x.prio = [] := by rw [hz]; rfl
            have E0 := Lib.hid e0
            clear e0
            go_wp2
            go_meet
            exact ⟨i, rfl, by rw [E0.out]; exact HST⟩
          · have hw := u64z_wrap x.prio
            have hlt := u64z_lt x.prio
            have e0 : numB 16 x.prio = 16 :: uv (u64z x.prio) := numB_some _ hz
            generalize u64z x.prio = y at hw hlt e0
            have hf := HFIT.out
            have hl1 := HST.out.len
            rw [e0, List.length_cons] at hf
            (try simp only [List.length_append, List.length_nil] at hl1)
            obtain ⟨i2, hi2⟩ : ∃ i2, i2 + 1 + (uv y).length = i := ⟨i - (1 + (uv y).length), by omega⟩
            have hin : i2 < n := by omega
            have HC := Lib.hid (HST.out.call (c := c) hlt hi2 hn2)
            have E0 := Lib.hid e0
            clear hf hl1 hi2 e0 hlt
            go_wp2_with (first | (go_at_call 56; (with_reducible refine HC.out.mono ?_); rintro e w2 ⟨rfl, hst2, ⟨old, hc2⟩, hf2⟩; have HST2 := Lib.hid hst2; clear hst2) | fail)
            go_meet
            exact ⟨i2, by go_num, Lib.hid (by rw [E0.out]; first | exact HST2.out.key 16 rfl | (have h := HST2.out.key 16 (v := 16) rfl; rw [List.append_nil] at h; exact h))⟩
        case rest =>
          obtain ⟨i, rfl, st1⟩ := hcut
          clear HST kk
          have HST := st1
          clear st1
          have k0 := (HX.out.below (HST.out.only.mono hBg)).lit (i := 0) rfl
          simp only [Nat.add_zero] at k0
          have hf := HFIT.out
          have hl1 := HST.out.len
          (try simp only [List.length_append] at hl1)
          have hv1 := uv_pos x.cid.length
          obtain ⟨l, hl⟩ : ∃ l, l = x.cid := ⟨_, rfl⟩
          have HL := Lib.hid hl
          rw [← hl] at k0 hf hc0 hv1
          obtain ⟨i2, hi2⟩ : ∃ i2, i2 + 1 + (uv l.length).length = i - l.length := ⟨i - l.length - (1 + (uv l.length).length), by omega⟩
          obtain ⟨i3, hi3⟩ : ∃ i3, i3 + l.length = i := ⟨i - l.length, by omega⟩
          have hi4 : i2 + 1 + (uv l.length).length = i3 := by omega
          have e1 : (i : Int) - (l.length : Nat) = (i3 : Int) := by omega
          have hin : i2 < n := by omega
          have hi2n : i2 ≤ n := by omega
          have hi3n : i3 ≤ n := by omega
          have hi3c : ¬ c = i3 := by omega
          have hll : l.length ≤ n - i3 := by omega
          have hlc : l.length ≤ 140737488355328 := by omega
          have HEND : Hid (i2 + (entB x).length = n) := Lib.hid (by rw [HLEN.out, ← hl]; omega)
          have HCS := Lib.hid (cidSize_any l b o wc k0)
          have hbc : b < wc.heap.size := Nat.lt_trans hbg HST.out.blk.lt
          have h0 : PutSt w g n L (numB 16 x.prio ++ (flagB 24 x.cancel ++ (numB 32 x.type ++ (flagB 40 x.dont)))) (i3 + l.length) wc := by rw [hi3]; exact HST.out
          have HST3 := Lib.hid h0
          have HI4 := Lib.hid hi4
          clear hf hl1 hi2 hi3 hi4 h0 HST hl hv1
          generalize hln : l.length = ln at *
          go_wp2_with (first | (go_at_call 62; (with_reducible refine HCS.out.mono ?_); clear HCS; rintro e w3 ⟨rfl, hb⟩; have k3 : w3.cell? ⟨b, o, none⟩ = some (.string ⟨l.toArray⟩) := (hb.cell (p := ⟨b, o, none⟩) hbc).trans k0; have HST4 := Lib.hid (HST3.out.later hb); clear hb) | fail)
          have HP : Hid (Calls Tryd.prog 67 #[.pointer (some ⟨b, o, none⟩), .slice (some ⟨g, i3, none⟩) (n - i3) (c - i3)] w3.drew fun e w' => e = .returned (.tuple #[.int .i64 (ln : Nat), .nilIface]) ∧ Hid (PutSt w g n L (l ++ (numB 16 x.prio ++ (flagB 24 x.cancel ++ (numB 32 x.type ++ (flagB 40 x.dont))))) i3 w')) := Lib.hid (by have h := cidPut_any l b o g i3 n (n - i3) (c - i3) L (numB 16 x.prio ++ (flagB 24 x.cancel ++ (numB 32 x.type ++ (flagB 40 x.dont)))) w w3.drew hbg k3 (by rw [hln]; exact HST4.out.drew) (by omega) (by omega); rw [hln] at h; exact h)
          have HLN := Lib.hid hln
          clear hln
          go_region_held3 (fun _ => True) (exact trivial) (first | (go_at_call 67; go_must (refine HP.out.mono ?_); clear HP; rintro e w4 ⟨rfl, hst4⟩) | fail)
          go_wp2_with (first | (go_at_call 56; (with_reducible refine (hst4.out.call (c := c) (by omega) HI4.out hn2).mono ?_); rintro e w2 ⟨rfl, hst2, ⟨old, hc2⟩, hf2⟩; have HST2 := Lib.hid hst2; clear hst2) | fail)
          go_ret2
          have hK := HST2.out.key 10 (v := 10) rfl
          have h1 := HEND.out
          refine ⟨?_, ?_⟩
          · show Ending.returned (.tuple #[.int .i64 ((n : Int) - (i2 : Int)), .nilIface]) = _
            have : ((entB x).length : Int) = (n : Int) - (i2 : Int) := by omega
            rw [this]
          · rw [show n - (entB x).length = i2 by omega]
            have e : entB x = 10 :: (uv ln ++ (l ++ (numB 16 x.prio ++ (flagB 24 x.cancel ++ (numB 32 x.type ++ (flagB 40 x.dont)))))) := by rw [← HLN.out, HL.out]; unfold entB; simp [pieceB]
            rw [e]
            exact hK
set_option maxRecDepth 100000 in
set_option maxHeartbeats 8000000 in
theorem prePut_any (x : Pre) (b o B g n c : Nat) (L : List UInt8) (w : World) (hx : ObjB w B b o (ppreF x)) (hBg : B ≤ g) (hb : Blk w g 5 (u8s L).toArray) (hn : n ≤ L.length) (hn2 : n ≤ 140737488355328) (hnc : n ≤ c) (hc0 : 0 < x.cid.length) (hfit : (preB x).length ≤ n) :
    Calls Tryd.prog 57 #[.pointer (some ⟨b, o, none⟩), .slice (some ⟨g, 0, none⟩) n c] w (PutAll w g n L (preB x)) := by
  have HLEN := Lib.hid (preB_len x)
  rw [preB_len] at hfit
  have HFIT := Lib.hid hfit
  have HX := Lib.hid hx
  have hbg : b < g := Nat.lt_of_lt_of_le hx.lt hBg
  have HST : Hid (PutSt w g n L [] n w) := Lib.hid (PutSt.start hb hn)
  clear hx hb hfit
  go_enter Tryd.func57, Tryd.ntmps57
  have kk := (HX.out.below (HST.out.only.mono hBg)).lit (i := 1) rfl
  go_upto_if 19 with fail
  go_cut [6] from 19 (fun s6 wx => ∃ i : Nat, s6 = .int .i64 i ∧ Hid (PutSt w g n L (numB 16 x.type) i wx))
  case first =>
    by_cases hz : x.type = 0
    · rw [hz] at kk
      have e0 : numB 16 x.type = [] := by rw [hz]; rfl
      have E0 := Lib.hid e0
      clear e0
      go_wp2
      go_meet
      exact ⟨n, rfl, by rw [E0.out]; exact HST⟩
    · have hw := u64z_wrap x.type
      have hlt := u64z_lt x.type
      have e0 : numB 16 x.type = 16 :: uv (u64z x.type) := numB_some _ hz
      generalize u64z x.type = y at hw hlt e0
      have hf := HFIT.out
      have hl1 := HST.out.len
      rw [e0, List.length_cons] at hf
      (try simp only [List.length_append, List.length_nil] at hl1)
      obtain ⟨i2, hi2⟩ : ∃ i2, i2 + 1 + (uv y).length = n := ⟨n - (1 + (uv y).length), by omega⟩
      have hin : i2 < n := by omega
      have HC := Lib.hid (HST.out.call (c := c) hlt hi2 hn2)
      have E0 := Lib.hid e0
      clear hf hl1 hi2 e0 hlt
      go_wp2_with (first | (go_at_call 56; (with_reducible refine HC.out.mono ?_); rintro e w2 ⟨rfl, hst2, ⟨old, hc2⟩, hf2⟩; have HST2 := Lib.hid hst2; clear hst2) | fail)
      go_meet
      exact ⟨i2, by go_num, Lib.hid (by rw [E0.out]; first | exact HST2.out.key 16 rfl | (have h := HST2.out.key 16 (v := 16) rfl; rw [List.append_nil] at h; exact h))⟩
  case rest =>
    obtain ⟨i, rfl, st1⟩ := hcut
    clear HST kk
    have HST := st1
    clear st1
    have k0 := (HX.out.below (HST.out.only.mono hBg)).lit (i := 0) rfl
    simp only [Nat.add_zero] at k0
    have hf := HFIT.out
    have hl1 := HST.out.len
    (try simp only [List.length_append] at hl1)
    have hv1 := uv_pos x.cid.length
    obtain ⟨l, hl⟩ : ∃ l, l = x.cid := ⟨_, rfl⟩
    have HL := Lib.hid hl
    rw [← hl] at k0 hf hc0 hv1
    obtain ⟨i2, hi2⟩ : ∃ i2, i2 + 1 + (uv l.length).length = i - l.length := ⟨i - l.length - (1 + (uv l.length).length), by omega⟩
    obtain ⟨i3, hi3⟩ : ∃ i3, i3 + l.length = i := ⟨i - l.length, by omega⟩
    have hi4 : i2 + 1 + (uv l.length).length = i3 := by omega
    have e1 : (i : Int) - (l.length : Nat) = (i3 : Int) := by omega
    have hin : i2 < n := by omega
    have hi2n : i2 ≤ n := by omega
    have hi3n : i3 ≤ n := by omega
    have hi3c : ¬ c = i3 := by omega
    have hll : l.length ≤ n - i3 := by omega
    have hlc : l.length ≤ 140737488355328 := by omega
    have HEND : Hid (i2 + (preB x).length = n) := Lib.hid (by rw [HLEN.out, ← hl]; omega)
    have HCS := Lib.hid (cidSize_any l b o wc k0)
    have hbc : b < wc.heap.size := Nat.lt_trans hbg HST.out.blk.lt
    have h0 : PutSt w g n L (numB 16 x.type) (i3 + l.length) wc := by rw [hi3]; exact HST.out
    have HST3 := Lib.hid h0
    have HI4 := Lib.hid hi4
    clear hf hl1 hi2 hi3 hi4 h0 HST hl hv1
    generalize hln : l.length = ln at *
    go_wp2_with (first | (go_at_call 62; (with_reducible refine HCS.out.mono ?_); clear HCS; rintro e w3 ⟨rfl, hb⟩; have k3 : w3.cell? ⟨b, o, none⟩ = some (.string ⟨l.toArray⟩) := (hb.cell (p := ⟨b, o, none⟩) hbc).trans k0; have HST4 := Lib.hid (HST3.out.later hb); clear hb) | fail)
    have HP : Hid (Calls Tryd.prog 67 #[.pointer (some ⟨b, o, none⟩), .slice (some ⟨g, i3, none⟩) (n - i3) (c - i3)] w3.drew fun e w' => e = .returned (.tuple #[.int .i64 (ln : Nat), .nilIface]) ∧ Hid (PutSt w g n L (l ++ (numB 16 x.type)) i3 w')) := Lib.hid (by have h := cidPut_any l b o g i3 n (n - i3) (c - i3) L (numB 16 x.type) w w3.drew hbg k3 (by rw [hln]; exact HST4.out.drew) (by omega) (by omega); rw [hln] at h; exact h)
    have HLN := Lib.hid hln
    clear hln
    go_region_held3 (fun _ => True) (exact trivial) (first | (go_at_call 67; go_must (refine HP.out.mono ?_); clear HP; rintro e w4 ⟨rfl, hst4⟩) | fail)
    go_wp2_with (first | (go_at_call 56; (with_reducible refine (hst4.out.call (c := c) (by omega) HI4.out hn2).mono ?_); rintro e w2 ⟨rfl, hst2, ⟨old, hc2⟩, hf2⟩; have HST2 := Lib.hid hst2; clear hst2) | fail)
    go_ret2
    have hK := HST2.out.key 10 (v := 10) rfl
    have h1 := HEND.out
    refine ⟨?_, ?_⟩
    · show Ending.returned (.tuple #[.int .i64 ((n : Int) - (i2 : Int)), .nilIface]) = _
      have : ((preB x).length : Int) = (n : Int) - (i2 : Int) := by omega
      rw [this]
    · rw [show n - (preB x).length = i2 by omega]
      have e : preB x = 10 :: (uv ln ++ (l ++ (numB 16 x.type))) := by rw [← HLN.out, HL.out]; unfold preB; simp [pieceB]
      rw [e]
      exact hK
end Go.Proofs.YtocdbecakefnnaaDoor
