/- MarshalToSizedBuffer of a message Data: its bytes are laid at the buffer's end. -/
import Derived.Test.YtijbnmmeecmbjaaDoorFlS
namespace Go.Proofs.YtijbnmmeecmbjaaDoor
open Go.RowKit

theorem msg_len (m : MD) : (msgBytes m).length = 1 + (uv m.ty).length + ((optF 18 m.data).length + ((optN 24 m.fs).length + ((optN 40 m.hash).length + (optN 48 m.fan).length))) := by
  simp only [msgBytes, tailBytes, fieldN, List.length_append, List.length_cons]
  omega
set_option maxRecDepth 100000 in
set_option maxHeartbeats 4000000 in
theorem dataPut_any (p B g n c : Nat) (m : MD) (L : List UInt8) (w : World) (h : DObj w B p m) (hs : ShortD m) (hBg : B ≤ g) (hb : Blk w g 5 (u8s L).toArray) (hn : n ≤ L.length) (hn2 : n ≤ 140737488355328) (hnc : n ≤ c) (hfit : (msgBytes m).length ≤ n) :
    Calls Tryd.prog 59 #[.pointer (some ⟨p, 0, none⟩), .slice (some ⟨g, 0, none⟩) n c] w (PutAll w g n L (msgBytes m)) := by
  rw [msg_len] at hfit
  obtain ⟨ty, data, fs, hash, fan⟩ := m
  have HLO := Lib.hid h
  have HST0 := Lib.hid (PutSt.start hb hn)
  simp only at hfit
  have HFIT := Lib.hid hfit
  obtain ⟨ht, hd⟩ := hs
  simp only at ht hd
  have et : (uv ty).length = 1 := uv_short ht
  have HET := Lib.hid et
  have un := h.un
  have HST : Hid (PutSt w g n L [] n w) := HST0.out
  clear et hb hfit h HST0
  go_enter Tryd.func59, Tryd.ntmps59
  obtain ⟨v5, a5, b5⟩ := (HLO.out.below (HST.out.only.mono hBg)).fan
  simp only at b5
  obtain ⟨P, rfl, hP⟩ := b5.ptr
  go_upto_if 34 with fail
  go_cut [6] from 35 (fun s6 wx => ∃ i : Nat, s6 = .int .i64 i ∧ PutSt w g n L (optN 48 fan) i wx)
  case first =>
    rcases b5 with ⟨rfl, hv⟩ | ⟨y, q, rfl, hy, hq2, hv, hq⟩
    · injection hv with hv
      subst hv
      go_wp2
      go_meet
      exact ⟨n, rfl, HST.out⟩
    · injection hv with hv
      subst hv
      have hf := HFIT.out
      have hl1 := HST.out.len
      rw [optN_some] at hf
      have hle : (uv y).length + 1 ≤ n := by first | omega | (simp only [List.length_append] at hl1; omega)
      obtain ⟨i2, hi2⟩ : ∃ i2, i2 + 1 + (uv y).length = n := ⟨n - (1 + (uv y).length), by omega⟩
      have HC := Lib.hid (HST.out.call (c := c) hy hi2 hn2)
      have hin : i2 < n := by first | omega | (simp only [List.length_append] at hl1; omega)
      clear hf hl1 hi2 hy hle
      go_wp2_with (first | (go_at_call 64; refine HC.out.mono ?_; rintro e w2 ⟨rfl, hst2, ⟨old, hc2⟩, hf2⟩; have HST2 := Lib.hid hst2; clear hst2) | fail)
      go_meet
      exact ⟨i2, by go_num, by rw [show optN 48 (some y) = 48 :: (uv y ++ ([])) by simp [optN, fieldN]]; exact HST2.out.key 48 rfl⟩
  case rest =>
    obtain ⟨i, rfl, st1⟩ := hcut
    clear HST a5 b5 hP
    have HST := Lib.hid st1
    clear st1
    obtain ⟨v4, a4, b4⟩ := (HLO.out.below (HST.out.only.mono hBg)).hash
    simp only at b4
    obtain ⟨P, rfl, hP⟩ := b4.ptr
    go_upto_if 53 with fail
    go_cut [6] from 54 (fun s6 wx => ∃ i : Nat, s6 = .int .i64 i ∧ PutSt w g n L (optN 40 hash ++ optN 48 fan) i wx)
    case first =>
      rcases b4 with ⟨rfl, hv⟩ | ⟨y, q, rfl, hy, hq2, hv, hq⟩
      · injection hv with hv
        subst hv
        go_wp2
        go_meet
        exact ⟨i, rfl, HST.out⟩
      · injection hv with hv
        subst hv
        have hf := HFIT.out
        have hl1 := HST.out.len
        rw [optN_some] at hf
        have hle : (uv y).length + 1 ≤ i := by first | omega | (simp only [List.length_append] at hl1; omega)
        obtain ⟨i2, hi2⟩ : ∃ i2, i2 + 1 + (uv y).length = i := ⟨i - (1 + (uv y).length), by omega⟩
        have HC := Lib.hid (HST.out.call (c := c) hy hi2 hn2)
        have hin : i2 < n := by first | omega | (simp only [List.length_append] at hl1; omega)
        clear hf hl1 hi2 hy hle
        go_wp2_with (first | (go_at_call 64; refine HC.out.mono ?_; rintro e w2 ⟨rfl, hst2, ⟨old, hc2⟩, hf2⟩; have HST2 := Lib.hid hst2; clear hst2) | fail)
        go_meet
        exact ⟨i2, by go_num, by rw [show optN 40 (some y) ++ optN 48 fan = 40 :: (uv y ++ (optN 48 fan)) by simp [optN, fieldN]]; exact HST2.out.key 40 rfl⟩
    case rest =>
      obtain ⟨i, rfl, st1⟩ := hcut
      clear HST a4 b4 hP
      have HST := Lib.hid st1
      clear st1
      obtain ⟨v2, a2, b2⟩ := (HLO.out.below (HST.out.only.mono hBg)).fs
      simp only at b2
      obtain ⟨P, rfl, hP⟩ := b2.ptr
      have a3 := (HLO.out.below (HST.out.only.mono hBg)).sizes
      go_upto_if 103 with fail
      go_cut [6] from 104 (fun s6 wx => ∃ i : Nat, s6 = .int .i64 i ∧ PutSt w g n L (optN 24 fs ++ (optN 40 hash ++ optN 48 fan)) i wx)
      case first =>
        rcases b2 with ⟨rfl, hv⟩ | ⟨y, q, rfl, hy, hq2, hv, hq⟩
        · injection hv with hv
          subst hv
          go_wp2
          go_meet
          exact ⟨i, rfl, HST.out⟩
        · injection hv with hv
          subst hv
          have hf := HFIT.out
          have hl1 := HST.out.len
          rw [optN_some] at hf
          have hle : (uv y).length + 1 ≤ i := by first | omega | (simp only [List.length_append] at hl1; omega)
          obtain ⟨i2, hi2⟩ : ∃ i2, i2 + 1 + (uv y).length = i := ⟨i - (1 + (uv y).length), by omega⟩
          have HC := Lib.hid (HST.out.call (c := c) hy hi2 hn2)
          have hin : i2 < n := by first | omega | (simp only [List.length_append] at hl1; omega)
          clear hf hl1 hi2 hy hle
          go_wp2_with (first | (go_at_call 64; refine HC.out.mono ?_; rintro e w2 ⟨rfl, hst2, ⟨old, hc2⟩, hf2⟩; have HST2 := Lib.hid hst2; clear hst2) | fail)
          go_meet
          exact ⟨i2, by go_num, by rw [show optN 24 (some y) ++ (optN 40 hash ++ optN 48 fan) = 24 :: (uv y ++ (optN 40 hash ++ optN 48 fan)) by simp [optN, fieldN]]; exact HST2.out.key 24 rfl⟩
      case rest =>
        obtain ⟨i, rfl, st1⟩ := hcut
        clear HST a2 b2 hP
        have HST := Lib.hid st1
        clear st1
        obtain ⟨v1, a1, A, c0, rfl, hA, hle0, hr0⟩ := (HLO.out.below (HST.out.only.mono hBg)).data
        simp only at hA hle0 hr0 a1
        have HR0 := Lib.hid hr0
        clear hr0
        go_upto_if 122 with fail
        go_cut [6] from 123 (fun s6 wx => ∃ i : Nat, s6 = .int .i64 i ∧ PutSt w g n L (tailBytes ⟨ty, data, fs, hash, fan⟩) i wx)
        case first =>
          cases data with
          | none =>
            obtain rfl : A = none := by simpa using hA
            go_wp2
            go_meet
            exact ⟨i, rfl, HST.out⟩
          | some hb =>
            have hf := HFIT.out
            have hl1 := HST.out.len
            simp only [List.length_append] at hl1
            have hm : hb.length ≤ 2000 := hd
            have hof := optF_some 18 hb
            have hb2 : tailBytes ⟨ty, some hb, fs, hash, fan⟩ = 18 :: (uv hb.length ++ (hb ++ (optN 24 fs ++ (optN 40 hash ++ optN 48 fan)))) := by
              show fieldB 18 hb ++ _ = _
              rw [fieldB]
              simp
            have hr0 : Reads wc B 1 A hb.length (u8s hb) := HR0.out
            change wc.cell? _ = some (.slice A hb.length c0) at a1
            obtain ⟨ad, rfl⟩ : ∃ ad, A = some ad := by
              cases A with
              | none => simp at hA
              | some ad => exact ⟨ad, rfl⟩
            generalize hml : hb.length = m at hm hof hb2 hr0 a1
            obtain ⟨i2, hi2⟩ : ∃ i2, i2 + 1 + (uv m).length + m = i := ⟨i - (1 + (uv m).length + m), by omega⟩
            obtain ⟨i3, hi3⟩ : ∃ i3, i2 + 1 + (uv m).length = i3 := ⟨_, rfl⟩
            rw [hi3] at hi2
            subst hi2
            have h2n : i2 < n := by omega
            have h3n : i3 + m ≤ n := by omega
            have hg0 : Below g w wc := HST.out.only
            have HI3 := Lib.hid hi3
            have HB2 := Lib.hid hb2
            have HG0 := Lib.hid hg0
            have HR1 := Lib.hid hr0
            clear hf hl1 hof hb2 hi3 hg0 hr0 HR0 hml
            have h3c : i3 ≤ n := by omega
            have hpg : p < g := Nat.lt_of_lt_of_le HLO.out.lt hBg
            have b0 : w.cell? ⟨p, 1, none⟩ = some (.slice (some ad) m c0) := (HG0.out.cell (p := ⟨p, 1, none⟩) hpg).symm.trans a1
            by_cases hic : c = i3
            · subst hic
              go_wp2_with fail
              go_region_law (first | (refine step_put_bytes rfl (.tmp 132) (.tmp 136) rfl g n c B m 0 0 0 c0 (some ad) L _ hb HST.out.drew rfl rfl HR1.out.drew (.inr (by omega)) (by omega) ?_; intro w3 hst3; have HST3 := Lib.hid hst3; have k1 : w3.cell? ⟨p, 1, none⟩ = some (.slice (some ad) m c0) := (hst3.only.cell (p := ⟨p, 1, none⟩) hpg).trans b0; clear hst3) | fail)
              go_wp2_with (first | (go_at_call 64; refine (HST3.out.call (c := c) (by omega) HI3.out hn2).mono ?_; rintro e w4 ⟨rfl, hst4, ⟨old, hc4⟩, hf4⟩; have HST4 := Lib.hid hst4; clear hst4) | fail)
              go_meet
              exact ⟨i2, by go_num, by rw [HB2.out]; exact HST4.out.key 18 rfl⟩
            · go_wp2_with fail
              go_region_law (first | (refine step_put_bytes rfl (.tmp 132) (.tmp 136) rfl g n i3 B m i3 (n - i3) (c - i3) c0 (some ad) L _ hb HST.out.drew rfl rfl HR1.out.drew (.inl rfl) (by omega) ?_; intro w3 hst3; have HST3 := Lib.hid hst3; have k1 : w3.cell? ⟨p, 1, none⟩ = some (.slice (some ad) m c0) := (hst3.only.cell (p := ⟨p, 1, none⟩) hpg).trans b0; clear hst3) | fail)
              go_wp2_with (first | (go_at_call 64; refine (HST3.out.call (c := c) (by omega) HI3.out hn2).mono ?_; rintro e w4 ⟨rfl, hst4, ⟨old, hc4⟩, hf4⟩; have HST4 := Lib.hid hst4; clear hst4) | fail)
              go_meet
              exact ⟨i2, by go_num, by rw [HB2.out]; exact HST4.out.key 18 rfl⟩
        case rest =>
          obtain ⟨i, rfl, st1⟩ := hcut
          clear HST a1 HR0
          have HST := Lib.hid st1
          obtain ⟨q, a0, hqB, q0⟩ := (HLO.out.below (HST.out.only.mono hBg)).ty
          simp only at q0
          have hl1 := HST.out.len
          have hf := HFIT.out
          have het := HET.out
          have htl : (tailBytes ⟨ty, data, fs, hash, fan⟩).length = (optF 18 data).length + ((optN 24 fs).length + ((optN 40 hash).length + (optN 48 fan).length)) := by simp only [tailBytes, List.length_append]
          obtain ⟨i2, hi2⟩ : ∃ i2, i2 + 1 + (uv ty).length = i := ⟨i - 2, by omega⟩
          have HC := Lib.hid (HST.out.call (c := c) (by omega) hi2 hn2)
          have hin : i2 < n := by omega
          have hend : i2 + (msgBytes ⟨ty, data, fs, hash, fan⟩).length = n := by rw [msg_len]; simp only; omega
          have HEND := Lib.hid hend
          have hi2n : i2 ≤ n := by omega
          clear hf hl1 hi2 htl het hend st1
          go_wp2_with (first | (go_at_call 64; refine HC.out.mono ?_; rintro e w2 ⟨rfl, hst2, ⟨old, hc2⟩, hf2⟩; have HST2 := Lib.hid hst2; clear hst2) | fail)
          go_ret2
          have hK := HST2.out.key 8 rfl
          have h1 := HEND.out
          refine ⟨?_, ?_⟩
          · show Ending.returned (.tuple #[.int .i64 ((n : Int) - (i2 : Int)), .nilIface]) = _
            have : ((msgBytes ⟨ty, data, fs, hash, fan⟩).length : Int) = (n : Int) - (i2 : Int) := by omega
            rw [this]
          · rw [show n - (msgBytes ⟨ty, data, fs, hash, fan⟩).length = i2 by omega]
            exact hK
end Go.Proofs.YtijbnmmeecmbjaaDoor
