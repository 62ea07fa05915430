/- MarshalToSizedBuffer of a want list. (Written by mwputgen.py.) -/
import Derived.Test.YtocdbecakefnnaaDoorMgF
namespace Go.Proofs.YtocdbecakefnnaaDoor
open Go.RowKit
set_option linter.unusedSimpArgs false

theorem flat_drop {α : Type} (f : α → List UInt8) {l : List α} {j : Nat} (h : j < l.length) : (l.drop j).flatMap f = f l[j] ++ (l.drop (j + 1)).flatMap f := by
  rw [List.drop_eq_getElem_cons h, List.flatMap_cons]
theorem flat_drop_le {α : Type} (f : α → List UInt8) (l : List α) (j : Nat) : ((l.drop j).flatMap f).length ≤ (l.flatMap f).length := by
  conv => rhs; rw [← List.take_append_drop j l, List.flatMap_append, List.length_append]
  omega
theorem wantB_eq (m : Msg) : wantB m = entsB m.ents ++ (flagB 16 m.full) := rfl
set_option maxRecDepth 100000 in
set_option maxHeartbeats 16000000 in
theorem wantPut_any (m : Msg) (b o B g n c : Nat) (L : List UInt8) (w : World) (h : WantAt w B b o m) (hc0 : ∀ e ∈ m.ents, 0 < e.cid.length) (hcnt : m.ents.length ≤ 40) (hBg : B ≤ g) (hb : Blk w g 5 (u8s L).toArray) (hn : n ≤ L.length) (hn2 : n ≤ 140737488355328) (hnc : n ≤ c) (hfit : (wantB m).length ≤ n) :
    Calls Tryd.prog 59 #[.pointer (some ⟨b, o, none⟩), .slice (some ⟨g, 0, none⟩) n c] w (PutAll w g n L (wantB m)) := by
  have hbg : b < g := Nat.lt_of_lt_of_le h.lt hBg
  have HROW0 := Lib.hid h.rows
  have KF := Lib.hid h.full
  have HC0 := Lib.hid hc0
  have HCNT0 := Lib.hid hcnt
  clear h hc0 hcnt
  have HLEN := Lib.hid (wantB_len m)
  rw [wantB_len] at hfit
  have HFIT := Lib.hid hfit
  have HST : Hid (PutSt w g n L [] n w) := Lib.hid (PutSt.start hb hn)
  clear hb hfit
  go_enter Tryd.func59, Tryd.ntmps59
  have kk := (HST.out.only.cell (p := ⟨b, o + 1, none⟩) hbg).trans KF.out
  go_upto_if 18 with fail
  go_cut [6] from 18 (fun s6 wx => ∃ i : Nat, s6 = .int .i64 i ∧ Hid (PutSt w g n L (flagB 16 m.full) i wx))
  case first =>
    cases hb0 : m.full with
    | false =>
      rw [hb0] at kk
      have e0 : flagB 16 m.full = [] := by rw [hb0]; rfl
      have E0 := Lib.hid e0
      clear e0 hb0
      go_wp2
      go_meet
      exact ⟨n, rfl, by first | exact HST | (rw [E0.out]; exact HST)⟩
    | true =>
      rw [hb0] at kk
      have e0 : flagB 16 m.full = [16, 1] := by rw [hb0]; rfl
      have hf := HFIT.out
      rw [e0] at hf
      simp only [List.length_cons, List.length_nil] at hf
      obtain ⟨i2, hi2⟩ : ∃ i2, i2 + 1 + 1 = n := ⟨n - 2, by omega⟩
      have hin1 : i2 + 1 < n := by omega
      have hin2 : i2 < n := by omega
      have e1 : (n : Int) - 1 = ((i2 + 1 : Nat) : Int) := by omega
      have h0 : PutSt w g n L [] (i2 + 1 + 1) w := by rw [hi2]; exact HST.out
      have h2 := h0.key 1 (v := 1) rfl
      obtain ⟨old1, hc1⟩ := h0.place (i2 + 1) hin1
      obtain ⟨old2, hc2⟩ := h2.place i2 hin2
      have hf1 := h0.blk.frozen (i2 + 1)
      have hf2 := h2.blk.frozen i2
      have kk2 := ((h2.only.cell (p := ⟨b, o + 1, none⟩) hbg).trans ((h0.only.cell (p := ⟨b, o + 1, none⟩) hbg).symm)).trans kk
      have HK := Lib.hid (h2.key 16 (v := 16) rfl)
      have E0 := Lib.hid e0
      clear hf hi2 e0 h0 h2 hb0
      go_wp2
      go_meet
      exact ⟨i2, by go_num, by first | exact HK | (rw [E0.out]; exact HK)⟩
  case rest =>
    obtain ⟨i, rfl, st1⟩ := hcut
    clear HST kk
    have HST := st1
    clear st1
    obtain ⟨v0, d0, A0, c0, rfl, -, hrow0⟩ := HROW0.out
    have hcnt := HCNT0.out
    have dd := (HST.out.only.cell (p := ⟨b, o, none⟩) hbg).trans d0
    have D := Lib.hid d0
    clear d0
    go_upto_if 41 with fail
    go_cut [4, 5, 6, 8, 9, 10] from 41 (fun _ _ s6 _ _ _ wx => ∃ i : Nat, s6 = .int .i64 i ∧ Hid (PutSt w g n L (entsB m.ents ++ (flagB 16 m.full)) i wx))
    case first =>
      by_cases h0 : 0 < m.ents.length
      · have g0 : (0 : Int) < (m.ents.length : Int) := by omega
        obtain ⟨b', o', rfl, hx⟩ := hrow0 h0
        have HX := Lib.hid hx
        have hb' : b' < B := (hx 0 _ (List.getElem?_eq_getElem h0)).lt
        clear hx hrow0
        go_wp2
        rw [show decide (0 < m.ents.length) = true from decide_eq_true h0]
        go_loopw [6, 8] (fun s6 s8 wr => ∃ (i k : Nat) (z : Int) (T : List UInt8), k ≤ m.ents.length ∧ z = (k : Int) - 1 ∧ s6 = .int .i64 i ∧ s8 = .int .i64 z ∧ Hid (T = entsB (m.ents.drop k)) ∧ Hid (PutSt w g n L (T ++ (flagB 16 m.full)) i wr)) (fun _ s8 _ => (intOf s8 + 1).toNat)
        case atStart => exact ⟨i, m.ents.length, (m.ents.length : Int) - 1, [], Nat.le_refl _, rfl, rfl, by go_num, Lib.hid (by rw [List.drop_length]; rfl), by first | exact HST | (rw [List.nil_append]; exact HST)⟩
        case round =>
          obtain ⟨i, k, z, T, hk, hz, rfl, rfl, HT, HST1⟩ := hrel
          by_cases hk0 : k = 0
          · obtain rfl : z = -1 := by omega
            have HT2 : Hid (entsB m.ents = T) := Lib.hid (by have h := HT.out; rw [hk0, List.drop_zero] at h; exact h.symm)
            clear HT hz hk0 hk
            go_wp2
            go_meet
            exact ⟨i, rfl, by rw [HT2.out]; first | exact HST1 | (have h := HST1; rw [List.append_nil] at h; exact h)⟩
          · obtain ⟨j, hj⟩ : ∃ j, k = j + 1 := ⟨k - 1, by omega⟩
            subst hj
            obtain rfl : z = (j : Int) := by omega
            clear hz hk0
            have hlt2 : j < m.ents.length := by omega
            obtain ⟨q, hq, hdr⟩ : ∃ q, m.ents[j]? = some q ∧ entsB (m.ents.drop j) = pieceB 10 (entB q) ++ T := ⟨m.ents[j], List.getElem?_eq_getElem hlt2, by rw [HT.out]; unfold entsB; exact flat_drop _ hlt2⟩
            have hqm := List.mem_of_getElem? hq
            have hob := (HX.out j q hq).below (HST1.out.only.mono hBg)
            have hdl : (entsB (m.ents.drop j)).length ≤ (entsB m.ents).length := by unfold entsB; exact flat_drop_le _ _ _
            have hf := HFIT.out
            have hl1 := HST1.out.len
            rw [hdr, List.length_append, pieceB_length] at hdl
            simp only [List.length_append, List.length_nil] at hl1
            obtain ⟨t, ht⟩ : ∃ t, (entB q).length = t := ⟨_, rfl⟩
            rw [ht] at hdl
            obtain ⟨i2, hi2⟩ : ∃ i2, i2 + 1 + (uv t).length = i - t := ⟨i - t - (1 + (uv t).length), by omega⟩
            obtain ⟨i3, hi3⟩ : ∃ i3, i3 + t = i := ⟨i - t, by omega⟩
            have hi4 : i2 + 1 + (uv t).length = i3 := by omega
            have e1 : (i : Int) - (t : Nat) = (i3 : Int) := by omega
            have hin : i2 < n := by omega
            have hi2n : i2 ≤ n := by omega
            have hi3n : i3 ≤ n := by omega
            have hin1 : i ≤ n := by omega
            have hic : i ≤ c := by omega
            have htl : t ≤ 140737488355328 := by omega
            have hti : t ≤ i := by omega
            have g1 : (j : Int) < (m.ents.length : Int) := by omega
            have HI4 := Lib.hid hi4
            have HTK : Hid (entsB (m.ents.drop j) = pieceB 10 (entB q) ++ T) := Lib.hid hdr
            have k0 := (HST1.out.only.cell (p := ⟨b, o, none⟩) hbg).trans D.out
            have HP : Hid (Calls Tryd.prog 68 #[.pointer (some ⟨b', o' + j * 5, none⟩), .slice (some ⟨g, 0, none⟩) i c] wr.drew (PutAll wr.drew g i (put L i (T ++ (flagB 16 m.full))) (entB q))) := Lib.hid (entPut_any q b' (o' + j * 5) B g i c _ wr.drew ((HX.out j q hq).below (HST1.out.drew.only.mono hBg)) hBg HST1.out.drew.blk (by have := HST1.out.fit; have := HST1.out.len; rw [put_length _ _ _ (by omega)]; omega) (by omega) hic (HC0.out q hqm) (by rw [ht]; exact hti))
            have HPL := Lib.hid (show (entB q).length = t from ht)
            clear hf hl1 hi2 hi3 hi4 ht hq hdr hob HT hdl
            go_wp2_with fail
            go_region_held3 (fun w' => w'.cell? ⟨b, o, none⟩ = some (.slice (some ⟨b', o', none⟩) m.ents.length c0)) (exact k0) (first | (go_at_call 68; go_must (refine HP.out.mono ?_); clear HP; rintro e w4 ⟨rfl, hst4⟩; rw [HPL.out] at hst4 ⊢; have hs4 := HST1.out.drew.sub (T := entB q) (by rw [HPL.out]; exact hti) (by rw [HPL.out]; exact hst4); rw [HPL.out] at hs4; have k2 := (hs4.only.cell (p := ⟨b, o, none⟩) hbg).trans D.out; clear k0 hst4; have k0 := k2; clear k2) | fail)
            rw [show i - t = i3 by omega] at hs4
            have HS4 := Lib.hid hs4
            clear hs4
            go_wp2_with (first | (go_at_call 56; (with_reducible refine (HS4.out.call (c := c) (by omega) HI4.out hn2).mono ?_); rintro e w5 ⟨rfl, hst2, ⟨old, hc2⟩, hf2⟩; have HST2 := Lib.hid hst2; clear hst2) | fail)
            go_roundw
            case rel => exact ⟨i2, j, (j : Int) - 1, pieceB 10 (entB q) ++ T, by omega, rfl, by go_num, by go_num, Lib.hid HTK.out.symm, Lib.hid (by
              have h := HST2.out.key 10 (v := 10) rfl
              rw [show (pieceB 10 (entB q) ++ T) ++ (flagB 16 m.full) = 10 :: (uv t ++ (entB q ++ (T ++ (flagB 16 m.full)))) by rw [← HPL.out]; simp [pieceB]]
              exact h)⟩
            case measure => show ((j : Int) - 1 + 1).toNat < ((j : Int) + 1).toNat; omega
      · have g0 : ¬ (0 : Int) < (m.ents.length : Int) := by omega
        have he : m.ents = [] := List.eq_nil_of_length_eq_zero (by omega)
        have E0 : Hid (entsB m.ents = []) := Lib.hid (by rw [he]; rfl)
        clear he
        go_wp2
        go_meet
        exact ⟨i, rfl, by rw [E0.out]; exact HST⟩
    case rest =>
      obtain ⟨i, rfl, st1⟩ := hcut
      clear HST dd hrow0 hcnt
      have HST := st1
      clear st1
      have hl1 := HST.out.len
      simp only [List.length_append] at hl1
      have hin : i ≤ n := by omega
      have HEND : Hid (i + (wantB m).length = n) := Lib.hid (by rw [HLEN.out]; omega)
      clear hl1
      go_wp2
      go_ret2
      have h1 := HEND.out
      refine ⟨?_, ?_⟩
      · show Ending.returned (.tuple #[.int .i64 ((n : Int) - (i : Int)), .nilIface]) = _
        have : ((wantB m).length : Int) = (n : Int) - (i : Int) := by omega
        rw [this]
      · rw [show n - (wantB m).length = i by omega]
        exact HST.out
end Go.Proofs.YtocdbecakefnnaaDoor
