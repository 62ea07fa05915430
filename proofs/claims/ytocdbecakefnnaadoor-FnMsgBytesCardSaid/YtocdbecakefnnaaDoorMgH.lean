/- MarshalToSizedBuffer of a message. (Written by mwputgen.py.) -/
import Derived.Test.YtocdbecakefnnaaDoorMgG
namespace Go.Proofs.YtocdbecakefnnaaDoor
open Go.RowKit
set_option linter.unusedSimpArgs false

theorem numB_zero (key : UInt8) : numB key 0 = [] := rfl
/-- What is asked of a message's cids. -/
structure MsgPos (m : Msg) : Prop where
  ents : ∀ e ∈ m.ents, 0 < e.cid.length
  pres : ∀ e ∈ m.pres, 0 < e.cid.length
set_option maxRecDepth 100000 in
set_option maxHeartbeats 16000000 in
theorem msgPut_any (m : Msg) (b o B g n c : Nat) (L : List UInt8) (w : World) (h : MsgAt w B b o m) (hm : MsgFit m) (hp : MsgPos m) (hBg : B ≤ g) (hb : Blk w g 5 (u8s L).toArray) (hn : n ≤ L.length) (hn2 : n ≤ 140737488355328) (hnc : n ≤ c) (hfit : (msgB m).length ≤ n) :
    Calls Tryd.prog 43 #[.pointer (some ⟨b, o, none⟩), .slice (some ⟨g, 0, none⟩) n c] w (PutAll w g n L (msgB m)) := by
  have hbg : b < g := Nat.lt_of_lt_of_le h.want.lt hBg
  have HW := Lib.hid h.want
  have HROW1 := Lib.hid h.blocks
  have HROW2 := Lib.hid h.payload
  have HROW3 := Lib.hid h.pres
  have KP := Lib.hid h.pend
  have HP := Lib.hid hp
  have HCNT1 := Lib.hid hm.n2
  have HCNT2 := Lib.hid hm.n3
  have HCNT3 := Lib.hid hm.n4
  have HCNT0 := Lib.hid hm.n1
  clear h hm hp
  have HLEN := Lib.hid (msgB_len m)
  rw [msgB_len] at hfit
  have HFIT := Lib.hid hfit
  have HST : Hid (PutSt w g n L [] n w) := Lib.hid (PutSt.start hb hn)
  clear hb hfit
  go_enter Tryd.func43, Tryd.ntmps43
  have kk := (HST.out.only.cell (p := ⟨b, o + 5, none⟩) hbg).trans KP.out
  go_upto_if 25 with fail
  go_cut [6] from 25 (fun s6 wx => ∃ i : Nat, s6 = .int .i64 i ∧ Hid (PutSt w g n L (numB 40 m.pending) i wx))
  case first =>
    by_cases hz : m.pending = 0
    · rw [hz] at kk
      have e0 : numB 40 m.pending = [] := by rw [hz]; rfl
      have E0 := Lib.hid e0
      clear e0
      go_wp2
      go_meet
      exact ⟨n, rfl, by rw [E0.out]; exact HST⟩
    · have hw := u64z_wrap m.pending
      have hlt := u64z_lt m.pending
      have e0 : numB 40 m.pending = 40 :: uv (u64z m.pending) := numB_some _ hz
      generalize u64z m.pending = y at hw hlt e0
      have hf := HFIT.out
      rw [e0, List.length_cons] at hf
      obtain ⟨i2, hi2⟩ : ∃ i2, i2 + 1 + (uv y).length = n := ⟨n - (1 + (uv y).length), by omega⟩
      have hin : i2 < n := by omega
      have HC := Lib.hid (HST.out.call (c := c) hlt hi2 hn2)
      have E0 := Lib.hid e0
      clear hf hi2 e0 hlt
      go_wp2_with (first | (go_at_call 56; (with_reducible refine HC.out.mono ?_); rintro e w2 ⟨rfl, hst2, ⟨old, hc2⟩, hf2⟩; have HST2 := Lib.hid hst2; clear hst2) | fail)
      go_meet
      exact ⟨i2, by go_num, Lib.hid (by rw [E0.out]; have h := HST2.out.key 40 (v := 40) rfl; rw [List.append_nil] at h; exact h)⟩
  case rest =>
    obtain ⟨i, rfl, st1⟩ := hcut
    clear HST kk
    have HST := st1
    clear st1
    obtain ⟨v3, d3, A3, c3, rfl, -, hrow3⟩ := HROW3.out
    have hcnt := HCNT3.out
    have dd := (HST.out.only.cell (p := ⟨b, o + 4, none⟩) hbg).trans d3
    have D := Lib.hid d3
    clear d3
    go_upto_if 44 with fail
    go_cut [4, 5, 6, 8, 9, 10] from 44 (fun _ _ s6 _ _ _ wx => ∃ i : Nat, s6 = .int .i64 i ∧ Hid (PutSt w g n L (presB m.pres ++ (numB 40 m.pending)) i wx))
    case first =>
      by_cases h0 : 0 < m.pres.length
      · have g0 : (0 : Int) < (m.pres.length : Int) := by omega
        obtain ⟨b', o', rfl, hx⟩ := hrow3 h0
        have HX := Lib.hid hx
        have hb' : b' < B := (hx 0 _ (List.getElem?_eq_getElem h0)).lt
        clear hx hrow3
        go_wp2
        rw [show decide (0 < m.pres.length) = true from decide_eq_true h0]
        go_loopw [6, 8] (fun s6 s8 wr => ∃ (i k : Nat) (z : Int) (T : List UInt8), k ≤ m.pres.length ∧ z = (k : Int) - 1 ∧ s6 = .int .i64 i ∧ s8 = .int .i64 z ∧ Hid (T = presB (m.pres.drop k)) ∧ Hid (PutSt w g n L (T ++ (numB 40 m.pending)) i wr)) (fun _ s8 _ => (intOf s8 + 1).toNat)
        case atStart => exact ⟨i, m.pres.length, (m.pres.length : Int) - 1, [], Nat.le_refl _, rfl, rfl, by go_num, Lib.hid (by rw [List.drop_length]; rfl), by first | exact HST | (rw [List.nil_append]; exact HST)⟩
        case round =>
          obtain ⟨i, k, z, T, hk, hz, rfl, rfl, HT, HST1⟩ := hrel
          by_cases hk0 : k = 0
          · obtain rfl : z = -1 := by omega
            have HT2 : Hid (presB m.pres = T) := Lib.hid (by have h := HT.out; rw [hk0, List.drop_zero] at h; exact h.symm)
            clear HT hz hk0 hk
            go_wp2
            go_meet
            exact ⟨i, rfl, by rw [HT2.out]; first | exact HST1 | (have h := HST1; rw [List.append_nil] at h; exact h)⟩
          · obtain ⟨j, hj⟩ : ∃ j, k = j + 1 := ⟨k - 1, by omega⟩
            subst hj
            obtain rfl : z = (j : Int) := by omega
            clear hz hk0
            have hlt2 : j < m.pres.length := by omega
            obtain ⟨q, hq, hdr⟩ : ∃ q, m.pres[j]? = some q ∧ presB (m.pres.drop j) = pieceB 34 (preB q) ++ T := ⟨m.pres[j], List.getElem?_eq_getElem hlt2, by rw [HT.out]; unfold presB; exact flat_drop _ hlt2⟩
            have hqm := List.mem_of_getElem? hq
            have hob := (HX.out j q hq).below (HST1.out.only.mono hBg)
            have hdl : (presB (m.pres.drop j)).length ≤ (presB m.pres).length := by unfold presB; exact flat_drop_le _ _ _
            have hf := HFIT.out
            have hl1 := HST1.out.len
            rw [hdr, List.length_append, pieceB_length] at hdl
            simp only [List.length_append, List.length_nil] at hl1
            obtain ⟨t, ht⟩ : ∃ t, (preB q).length = t := ⟨_, rfl⟩
            rw [ht] at hdl
            obtain ⟨i2, hi2⟩ : ∃ i2, i2 + 1 + (uv t).length = i - t := ⟨i - t - (1 + (uv t).length), by omega⟩
            obtain ⟨i3, hi3⟩ : ∃ i3, i3 + t = i := ⟨i - t, by omega⟩
            have hi4 : i2 + 1 + (uv t).length = i3 := by omega
            have e1 : (i : Int) - (t : Nat) = (i3 : Int) := by omega
            have hin : i2 < n := by omega
            have hi2n : i2 ≤ n := by omega
            have hi3n : i3 ≤ n := by omega
            have hin1 : i ≤ n := by omega
            have hic : i ≤ c := by omega
            have htl : t ≤ 140737488355328 := by omega
            have hti : t ≤ i := by omega
            have g1 : (j : Int) < (m.pres.length : Int) := by omega
            have HI4 := Lib.hid hi4
            have HTK : Hid (presB (m.pres.drop j) = pieceB 34 (preB q) ++ T) := Lib.hid hdr
            have k0 := (HST1.out.only.cell (p := ⟨b, o + 4, none⟩) hbg).trans D.out
            have HP : Hid (Calls Tryd.prog 57 #[.pointer (some ⟨b', o' + j * 2, none⟩), .slice (some ⟨g, 0, none⟩) i c] wr.drew (PutAll wr.drew g i (put L i (T ++ (numB 40 m.pending))) (preB q))) := Lib.hid (prePut_any q b' (o' + j * 2) B g i c _ wr.drew ((HX.out j q hq).below (HST1.out.drew.only.mono hBg)) hBg HST1.out.drew.blk (by have := HST1.out.fit; have := HST1.out.len; rw [put_length _ _ _ (by omega)]; omega) (by omega) hic (HP.out.pres q hqm) (by rw [ht]; exact hti))
            have HPL := Lib.hid (show (preB q).length = t from ht)
            clear hf hl1 hi2 hi3 hi4 ht hq hdr hob HT hdl
            go_wp2_with fail
            go_region_held3 (fun w' => w'.cell? ⟨b, o + 4, none⟩ = some (.slice (some ⟨b', o', none⟩) m.pres.length c3)) (exact k0) (first | (go_at_call 57; go_must (refine HP.out.mono ?_); clear HP; rintro e w4 ⟨rfl, hst4⟩; rw [HPL.out] at hst4 ⊢; have hs4 := HST1.out.drew.sub (T := preB q) (by rw [HPL.out]; exact hti) (by rw [HPL.out]; exact hst4); rw [HPL.out] at hs4; have k2 := (hs4.only.cell (p := ⟨b, o + 4, none⟩) hbg).trans D.out; clear k0 hst4; have k0 := k2; clear k2) | fail)
            rw [show i - t = i3 by omega] at hs4
            have HS4 := Lib.hid hs4
            clear hs4
            go_wp2_with (first | (go_at_call 56; (with_reducible refine (HS4.out.call (c := c) (by omega) HI4.out hn2).mono ?_); rintro e w5 ⟨rfl, hst2, ⟨old, hc2⟩, hf2⟩; have HST2 := Lib.hid hst2; clear hst2) | fail)
            go_roundw
            case rel => exact ⟨i2, j, (j : Int) - 1, pieceB 34 (preB q) ++ T, by omega, rfl, by go_num, by go_num, Lib.hid HTK.out.symm, Lib.hid (by
              have h := HST2.out.key 34 (v := 34) rfl
              rw [show (pieceB 34 (preB q) ++ T) ++ (numB 40 m.pending) = 34 :: (uv t ++ (preB q ++ (T ++ (numB 40 m.pending)))) by rw [← HPL.out]; simp [pieceB]]
              exact h)⟩
            case measure => show ((j : Int) - 1 + 1).toNat < ((j : Int) + 1).toNat; omega
      · have g0 : ¬ (0 : Int) < (m.pres.length : Int) := by omega
        have he : m.pres = [] := List.eq_nil_of_length_eq_zero (by omega)
        have E0 : Hid (presB m.pres = []) := Lib.hid (by rw [he]; rfl)
        clear he
        go_wp2
        go_meet
        exact ⟨i, rfl, by rw [E0.out]; exact HST⟩
    case rest =>
      obtain ⟨i, rfl, st1⟩ := hcut
      clear HST dd hrow3 hcnt
      have HST := st1
      clear st1
      obtain ⟨v2, d2, A2, c2, rfl, -, hrow2⟩ := HROW2.out
      have hcnt := HCNT2.out
      have dd := (HST.out.only.cell (p := ⟨b, o + 3, none⟩) hbg).trans d2
      have D := Lib.hid d2
      clear d2
      go_upto_if 89 with fail
      go_cut [4, 5, 6, 11, 12, 13] from 89 (fun _ _ s6 _ _ _ wx => ∃ i : Nat, s6 = .int .i64 i ∧ Hid (PutSt w g n L (payloadB m.payload ++ (presB m.pres ++ (numB 40 m.pending))) i wx))
      case first =>
        by_cases h0 : 0 < m.payload.length
        · have g0 : (0 : Int) < (m.payload.length : Int) := by omega
          obtain ⟨b', o', rfl, hx⟩ := hrow2 h0
          have HX := Lib.hid hx
          have hb' : b' < B := (hx 0 _ (List.getElem?_eq_getElem h0)).lt
          clear hx hrow2
          go_wp2
          rw [show decide (0 < m.payload.length) = true from decide_eq_true h0]
          go_loopw [6, 11] (fun s6 s8 wr => ∃ (i k : Nat) (z : Int) (T : List UInt8), k ≤ m.payload.length ∧ z = (k : Int) - 1 ∧ s6 = .int .i64 i ∧ s8 = .int .i64 z ∧ Hid (T = payloadB (m.payload.drop k)) ∧ Hid (PutSt w g n L (T ++ (presB m.pres ++ (numB 40 m.pending))) i wr)) (fun _ s8 _ => (intOf s8 + 1).toNat)
          case atStart => exact ⟨i, m.payload.length, (m.payload.length : Int) - 1, [], Nat.le_refl _, rfl, rfl, by go_num, Lib.hid (by rw [List.drop_length]; rfl), by first | exact HST | (rw [List.nil_append]; exact HST)⟩
          case round =>
            obtain ⟨i, k, z, T, hk, hz, rfl, rfl, HT, HST1⟩ := hrel
            by_cases hk0 : k = 0
            · obtain rfl : z = -1 := by omega
              have HT2 : Hid (payloadB m.payload = T) := Lib.hid (by have h := HT.out; rw [hk0, List.drop_zero] at h; exact h.symm)
              clear HT hz hk0 hk
              go_wp2
              go_meet
              exact ⟨i, rfl, by rw [HT2.out]; first | exact HST1 | (have h := HST1; rw [List.append_nil] at h; exact h)⟩
            · obtain ⟨j, hj⟩ : ∃ j, k = j + 1 := ⟨k - 1, by omega⟩
              subst hj
              obtain rfl : z = (j : Int) := by omega
              clear hz hk0
              have hlt2 : j < m.payload.length := by omega
              obtain ⟨q, hq, hdr⟩ : ∃ q, m.payload[j]? = some q ∧ payloadB (m.payload.drop j) = pieceB 26 (bloB q) ++ T := ⟨m.payload[j], List.getElem?_eq_getElem hlt2, by rw [HT.out]; unfold payloadB; exact flat_drop _ hlt2⟩
              have hqm := List.mem_of_getElem? hq
              have hob := (HX.out j q hq).below (HST1.out.only.mono hBg)
              have hdl : (payloadB (m.payload.drop j)).length ≤ (payloadB m.payload).length := by unfold payloadB; exact flat_drop_le _ _ _
              have hf := HFIT.out
              have hl1 := HST1.out.len
              rw [hdr, List.length_append, pieceB_length] at hdl
              simp only [List.length_append, List.length_nil] at hl1
              obtain ⟨t, ht⟩ : ∃ t, (bloB q).length = t := ⟨_, rfl⟩
              rw [ht] at hdl
              obtain ⟨i2, hi2⟩ : ∃ i2, i2 + 1 + (uv t).length = i - t := ⟨i - t - (1 + (uv t).length), by omega⟩
              obtain ⟨i3, hi3⟩ : ∃ i3, i3 + t = i := ⟨i - t, by omega⟩
              have hi4 : i2 + 1 + (uv t).length = i3 := by omega
              have e1 : (i : Int) - (t : Nat) = (i3 : Int) := by omega
              have hin : i2 < n := by omega
              have hi2n : i2 ≤ n := by omega
              have hi3n : i3 ≤ n := by omega
              have hin1 : i ≤ n := by omega
              have hic : i ≤ c := by omega
              have htl : t ≤ 140737488355328 := by omega
              have hti : t ≤ i := by omega
              have g1 : (j : Int) < (m.payload.length : Int) := by omega
              have HI4 := Lib.hid hi4
              have HTK : Hid (payloadB (m.payload.drop j) = pieceB 26 (bloB q) ++ T) := Lib.hid hdr
              have k0 := (HST1.out.only.cell (p := ⟨b, o + 3, none⟩) hbg).trans D.out
              have HP : Hid (Calls Tryd.prog 58 #[.pointer (some ⟨b', o' + j * 2, none⟩), .slice (some ⟨g, 0, none⟩) i c] wr.drew (PutAll wr.drew g i (put L i (T ++ (presB m.pres ++ (numB 40 m.pending)))) (bloB q))) := Lib.hid (bloPut_any q b' (o' + j * 2) B g i c _ wr.drew ((HX.out j q hq).below (HST1.out.drew.only.mono hBg)) hBg HST1.out.drew.blk (by have := HST1.out.fit; have := HST1.out.len; rw [put_length _ _ _ (by omega)]; omega) (by omega) hic (by rw [ht]; exact hti))
              have HPL := Lib.hid (show (bloB q).length = t from ht)
              clear hf hl1 hi2 hi3 hi4 ht hq hdr hob HT hdl
              go_wp2_with fail
              go_region_held3 (fun w' => w'.cell? ⟨b, o + 3, none⟩ = some (.slice (some ⟨b', o', none⟩) m.payload.length c2)) (exact k0) (first | (go_at_call 58; go_must (refine HP.out.mono ?_); clear HP; rintro e w4 ⟨rfl, hst4⟩; rw [HPL.out] at hst4 ⊢; have hs4 := HST1.out.drew.sub (T := bloB q) (by rw [HPL.out]; exact hti) (by rw [HPL.out]; exact hst4); rw [HPL.out] at hs4; have k2 := (hs4.only.cell (p := ⟨b, o + 3, none⟩) hbg).trans D.out; clear k0 hst4; have k0 := k2; clear k2) | fail)
              rw [show i - t = i3 by omega] at hs4
              have HS4 := Lib.hid hs4
              clear hs4
              go_wp2_with (first | (go_at_call 56; (with_reducible refine (HS4.out.call (c := c) (by omega) HI4.out hn2).mono ?_); rintro e w5 ⟨rfl, hst2, ⟨old, hc2⟩, hf2⟩; have HST2 := Lib.hid hst2; clear hst2) | fail)
              go_roundw
              case rel => exact ⟨i2, j, (j : Int) - 1, pieceB 26 (bloB q) ++ T, by omega, rfl, by go_num, by go_num, Lib.hid HTK.out.symm, Lib.hid (by
                have h := HST2.out.key 26 (v := 26) rfl
                rw [show (pieceB 26 (bloB q) ++ T) ++ (presB m.pres ++ (numB 40 m.pending)) = 26 :: (uv t ++ (bloB q ++ (T ++ (presB m.pres ++ (numB 40 m.pending))))) by rw [← HPL.out]; simp [pieceB]]
                exact h)⟩
              case measure => show ((j : Int) - 1 + 1).toNat < ((j : Int) + 1).toNat; omega
        · have g0 : ¬ (0 : Int) < (m.payload.length : Int) := by omega
          have he : m.payload = [] := List.eq_nil_of_length_eq_zero (by omega)
          have E0 : Hid (payloadB m.payload = []) := Lib.hid (by rw [he]; rfl)
          clear he
          go_wp2
          go_meet
          exact ⟨i, rfl, by rw [E0.out]; exact HST⟩
      case rest =>
        obtain ⟨i, rfl, st1⟩ := hcut
        clear HST dd hrow2 hcnt
        have HST := st1
        clear st1
        obtain ⟨v1, d1, A1, c1, rfl, -, hrow1⟩ := HROW1.out
        have hcnt := HCNT1.out
        have dd := (HST.out.only.cell (p := ⟨b, o + 2, none⟩) hbg).trans d1
        have D := Lib.hid d1
        clear d1
        go_upto_if 134 with fail
        go_cut [4, 5, 6, 14] from 134 (fun _ _ s6 _ wx => ∃ i : Nat, s6 = .int .i64 i ∧ Hid (PutSt w g n L (blocksB m.blocks ++ (payloadB m.payload ++ (presB m.pres ++ (numB 40 m.pending)))) i wx))
        case first =>
          by_cases h0 : 0 < m.blocks.length
          · have g0 : (0 : Int) < (m.blocks.length : Int) := by omega
            obtain ⟨b', o', rfl, hx⟩ := hrow1 h0
            have HX := Lib.hid hx
            have hb' : b' < B := (hx 0 _ (List.getElem?_eq_getElem h0)).lt
            clear hx hrow1
            go_wp2
            rw [show decide (0 < m.blocks.length) = true from decide_eq_true h0]
            go_loopw [6, 14] (fun s6 s8 wr => ∃ (i k : Nat) (z : Int) (T : List UInt8), k ≤ m.blocks.length ∧ z = (k : Int) - 1 ∧ s6 = .int .i64 i ∧ s8 = .int .i64 z ∧ Hid (T = blocksB (m.blocks.drop k)) ∧ Hid (PutSt w g n L (T ++ (payloadB m.payload ++ (presB m.pres ++ (numB 40 m.pending)))) i wr)) (fun _ s8 _ => (intOf s8 + 1).toNat)
            case atStart => exact ⟨i, m.blocks.length, (m.blocks.length : Int) - 1, [], Nat.le_refl _, rfl, rfl, by go_num, Lib.hid (by rw [List.drop_length]; rfl), by first | exact HST | (rw [List.nil_append]; exact HST)⟩
            case round =>
              obtain ⟨i, k, z, T, hk, hz, rfl, rfl, HT, HST1⟩ := hrel
              by_cases hk0 : k = 0
              · obtain rfl : z = -1 := by omega
                have HT2 : Hid (blocksB m.blocks = T) := Lib.hid (by have h := HT.out; rw [hk0, List.drop_zero] at h; exact h.symm)
                clear HT hz hk0 hk
                go_wp2
                go_meet
                exact ⟨i, rfl, by rw [HT2.out]; first | exact HST1 | (have h := HST1; rw [List.append_nil] at h; exact h)⟩
              · obtain ⟨j, hj⟩ : ∃ j, k = j + 1 := ⟨k - 1, by omega⟩
                subst hj
                obtain rfl : z = (j : Int) := by omega
                clear hz hk0
                have hlt2 : j < m.blocks.length := by omega
                obtain ⟨q, hq, hdr⟩ : ∃ q, m.blocks[j]? = some q ∧ blocksB (m.blocks.drop j) = pieceB 18 q ++ T := ⟨m.blocks[j], List.getElem?_eq_getElem hlt2, by rw [HT.out]; unfold blocksB; exact flat_drop _ hlt2⟩
                have hqm := List.mem_of_getElem? hq
                have hob := (HX.out j q hq).below (HST1.out.only.mono hBg)
                have hdl : (blocksB (m.blocks.drop j)).length ≤ (blocksB m.blocks).length := by unfold blocksB; exact flat_drop_le _ _ _
                have hf := HFIT.out
                have hl1 := HST1.out.len
                rw [hdr, List.length_append, pieceB_length] at hdl
                simp only [List.length_append, List.length_nil] at hl1
                obtain ⟨t, ht⟩ : ∃ t, q.length = t := ⟨_, rfl⟩
                rw [ht] at hdl
                obtain ⟨i2, hi2⟩ : ∃ i2, i2 + 1 + (uv t).length = i - t := ⟨i - t - (1 + (uv t).length), by omega⟩
                obtain ⟨i3, hi3⟩ : ∃ i3, i3 + t = i := ⟨i - t, by omega⟩
                have hi4 : i2 + 1 + (uv t).length = i3 := by omega
                have e1 : (i : Int) - (t : Nat) = (i3 : Int) := by omega
                have hin : i2 < n := by omega
                have hi2n : i2 ≤ n := by omega
                have hi3n : i3 ≤ n := by omega
                have hin1 : i ≤ n := by omega
                have hic : i ≤ c := by omega
                have htl : t ≤ 140737488355328 := by omega
                have hti : t ≤ i := by omega
                have g1 : (j : Int) < (m.blocks.length : Int) := by omega
                have HI4 := Lib.hid hi4
                have HTK : Hid (blocksB (m.blocks.drop j) = pieceB 18 q ++ T) := Lib.hid hdr
                have k0 := (HST1.out.only.cell (p := ⟨b, o + 2, none⟩) hbg).trans D.out
                obtain ⟨Aq, cq, q0, hcq, rq⟩ := hob.byt (i := 0) rfl
                simp only [Nat.add_zero, Nat.mul_one] at q0
                rw [ht] at q0 rq hcq
                have hbg' : b' < g := Nat.lt_of_lt_of_le hb' hBg
                have Q0 : Hid (w.cell? ⟨b', o' + j, none⟩ = some (.slice Aq t cq)) := Lib.hid ((HST1.out.only.cell (p := ⟨b', o' + j, none⟩) hbg').symm.trans q0)
                have HR := Lib.hid rq
                have HPL := Lib.hid ht
                have h3 : PutSt w g n L (T ++ (payloadB m.payload ++ (presB m.pres ++ (numB 40 m.pending)))) (i3 + t) wr := by rw [hi3]; exact HST1.out
                have HS3 := Lib.hid h3
                have hll : t ≤ n - i3 := by omega
                have hi3c : i3 ≤ c := by omega
                have ht0 : c = i3 → t = 0 := by omega
                clear hf hl1 hi2 hi3 hi4 ht hq hdr hob HT hdl h3 rq
                by_cases hce : c = i3
                · have HT1 := Lib.hid (ht0 hce)
                  subst hce
                  clear ht0
                  go_wp2_with fail
                  go_region_law (first | (refine step_put_bytes rfl (.tmp 157) (.tmp 164) rfl g n c B t 0 0 0 cq Aq L (T ++ (payloadB m.payload ++ (presB m.pres ++ (numB 40 m.pending)))) q HS3.out.drew rfl rfl HR.out.drew (.inr HT1.out) (by first | omega | (have := HT1.out; omega)) ?_; intro w3 hst3; have HS4 := Lib.hid hst3; have k2 : w3.cell? ⟨b, o + 2, none⟩ = some (.slice (some ⟨b', o', none⟩) m.blocks.length c1) := (hst3.only.cell (p := ⟨b, o + 2, none⟩) hbg).trans D.out; have q2 : w3.cell? ⟨b', o' + j, none⟩ = some (.slice Aq t cq) := (hst3.only.cell (p := ⟨b', o' + j, none⟩) hbg').trans Q0.out; clear hst3 k0 q0) | fail)
                  go_wp2_with (first | (go_at_call 56; (with_reducible refine (HS4.out.call (c := c) (by omega) HI4.out hn2).mono ?_); rintro e w5 ⟨rfl, hst2, ⟨old, hc2⟩, hf2⟩; have HST2 := Lib.hid hst2; clear hst2) | fail)
                  go_roundw
                  case rel => exact ⟨i2, j, (j : Int) - 1, pieceB 18 q ++ T, by omega, rfl, by go_num, by go_num, Lib.hid HTK.out.symm, Lib.hid (by
                    have h := HST2.out.key 18 (v := 18) rfl
                    rw [show (pieceB 18 q ++ T) ++ (payloadB m.payload ++ (presB m.pres ++ (numB 40 m.pending))) = 18 :: (uv t ++ (q ++ (T ++ (payloadB m.payload ++ (presB m.pres ++ (numB 40 m.pending)))))) by rw [← HPL.out]; simp [pieceB]]
                    exact h)⟩
                  case measure => show ((j : Int) - 1 + 1).toNat < ((j : Int) + 1).toNat; omega
                · clear ht0
                  go_wp2_with fail
                  go_region_law (first | (refine step_put_bytes rfl (.tmp 157) (.tmp 164) rfl g n i3 B t i3 (n - i3) (c - i3) cq Aq L (T ++ (payloadB m.payload ++ (presB m.pres ++ (numB 40 m.pending)))) q HS3.out.drew rfl rfl HR.out.drew (.inl rfl) (by first | omega | (have := HT1.out; omega)) ?_; intro w3 hst3; have HS4 := Lib.hid hst3; have k2 : w3.cell? ⟨b, o + 2, none⟩ = some (.slice (some ⟨b', o', none⟩) m.blocks.length c1) := (hst3.only.cell (p := ⟨b, o + 2, none⟩) hbg).trans D.out; have q2 : w3.cell? ⟨b', o' + j, none⟩ = some (.slice Aq t cq) := (hst3.only.cell (p := ⟨b', o' + j, none⟩) hbg').trans Q0.out; clear hst3 k0 q0) | fail)
                  go_wp2_with (first | (go_at_call 56; (with_reducible refine (HS4.out.call (c := c) (by omega) HI4.out hn2).mono ?_); rintro e w5 ⟨rfl, hst2, ⟨old, hc2⟩, hf2⟩; have HST2 := Lib.hid hst2; clear hst2) | fail)
                  go_roundw
                  case rel => exact ⟨i2, j, (j : Int) - 1, pieceB 18 q ++ T, by omega, rfl, by go_num, by go_num, Lib.hid HTK.out.symm, Lib.hid (by
                    have h := HST2.out.key 18 (v := 18) rfl
                    rw [show (pieceB 18 q ++ T) ++ (payloadB m.payload ++ (presB m.pres ++ (numB 40 m.pending))) = 18 :: (uv t ++ (q ++ (T ++ (payloadB m.payload ++ (presB m.pres ++ (numB 40 m.pending)))))) by rw [← HPL.out]; simp [pieceB]]
                    exact h)⟩
                  case measure => show ((j : Int) - 1 + 1).toNat < ((j : Int) + 1).toNat; omega
          · have g0 : ¬ (0 : Int) < (m.blocks.length : Int) := by omega
            have he : m.blocks = [] := List.eq_nil_of_length_eq_zero (by omega)
            have E0 : Hid (blocksB m.blocks = []) := Lib.hid (by rw [he]; rfl)
            clear he
            go_wp2
            go_meet
            exact ⟨i, rfl, by rw [E0.out]; exact HST⟩
        case rest =>
          obtain ⟨i, rfl, st1⟩ := hcut
          clear HST dd hrow1 hcnt
          have HST := st1
          clear st1
          obtain ⟨t, ht⟩ : ∃ t, (wantB m).length = t := ⟨_, rfl⟩
          have hf := HFIT.out
          have hl1 := HST.out.len
          simp only [List.length_append] at hl1
          rw [ht] at hf
          obtain ⟨i2, hi2⟩ : ∃ i2, i2 + 1 + (uv t).length = i - t := ⟨i - t - (1 + (uv t).length), by omega⟩
          obtain ⟨i3, hi3⟩ : ∃ i3, i3 + t = i := ⟨i - t, by omega⟩
          have hi4 : i2 + 1 + (uv t).length = i3 := by omega
          have e1 : (i : Int) - (t : Nat) = (i3 : Int) := by omega
          have hin : i2 < n := by omega
          have hi2n : i2 ≤ n := by omega
          have hi3n : i3 ≤ n := by omega
          have hin1 : i ≤ n := by omega
          have hic : i ≤ c := by omega
          have htl : t ≤ 140737488355328 := by omega
          have hti : t ≤ i := by omega
          have HI4 := Lib.hid hi4
          have HPL := Lib.hid ht
          have HEND : Hid (i2 + (msgB m).length = n) := Lib.hid (by rw [HLEN.out, ht]; omega)
          have HC : Hid (Calls Tryd.prog 59 #[.pointer (some ⟨b, o, none⟩), .slice (some ⟨g, 0, none⟩) i c] wc.drew (PutAll wc.drew g i (put L i (blocksB m.blocks ++ (payloadB m.payload ++ (presB m.pres ++ (numB 40 m.pending))))) (wantB m))) := Lib.hid (wantPut_any m b o B g i c _ wc.drew (HW.out.below (HST.out.drew.only.mono hBg)) HP.out.ents HCNT0.out hBg HST.out.drew.blk (by have := HST.out.fit; have := HST.out.len; rw [put_length _ _ _ (by omega)]; omega) (by omega) hic (by rw [ht]; exact hti))
          clear hf hl1 hi2 hi3 hi4 ht
          go_wp2_with fail
          go_region_held3 (fun _ => True) (exact trivial) (first | (go_at_call 59; go_must (refine HC.out.mono ?_); clear HC; rintro e w4 ⟨rfl, hst4⟩; rw [HPL.out] at hst4 ⊢; have hs4 := HST.out.drew.sub (T := wantB m) (by rw [HPL.out]; exact hti) (by rw [HPL.out]; exact hst4); rw [HPL.out] at hs4; clear hst4) | fail)
          rw [show i - t = i3 by omega] at hs4
          have HS4 := Lib.hid hs4
          clear hs4
          go_wp2_with (first | (go_at_call 56; (with_reducible refine (HS4.out.call (c := c) (by omega) HI4.out hn2).mono ?_); rintro e w5 ⟨rfl, hst2, ⟨old, hc2⟩, hf2⟩; have HST2 := Lib.hid hst2; clear hst2) | fail)
          go_ret2
          have hK := HST2.out.key 10 (v := 10) rfl
          have h1 := HEND.out
          refine ⟨?_, ?_⟩
          · show Ending.returned (.tuple #[.int .i64 ((n : Int) - (i2 : Int)), .nilIface]) = _
            have : ((msgB m).length : Int) = (n : Int) - (i2 : Int) := by omega
            rw [this]
          · rw [show n - (msgB m).length = i2 by omega]
            have e : msgB m = 10 :: (uv t ++ (wantB m ++ (blocksB m.blocks ++ (payloadB m.payload ++ (presB m.pres ++ (numB 40 m.pending)))))) := by rw [← HPL.out]; unfold msgB blocksB payloadB presB; simp [pieceB]
            rw [e]
            exact hK
end Go.Proofs.YtocdbecakefnnaaDoor
