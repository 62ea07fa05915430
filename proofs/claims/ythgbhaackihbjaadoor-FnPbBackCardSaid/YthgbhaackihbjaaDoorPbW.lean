/- MarshalToSizedBuffer of a node. -/
import Derived.Test.YthgbhaackihbjaaDoorPbM
namespace Go.Proofs.YthgbhaackihbjaaDoor
open Go.RowKit

theorem PutSt.nest {w wx w2 : World} {g n i i2 : Nat} {L S T : List UInt8} (h : PutSt w g n L S i wx) (k : PutSt wx g i (put L i S) T i2 w2) : PutSt w g n L (T ++ S) i2 w2 := by
  have h1 := h.fit
  have h2 := h.len
  have h3 := k.len
  refine ⟨h1, by rw [List.length_append]; omega, ?_, h.only.trans k.only⟩
  have hb := k.blk
  rw [put_front L i2 i T S h3 (by omega)] at hb
  exact hb
theorem linksBytes_drop (ls : List ML) (k : Nat) (h : k < ls.length) : linksBytes (ls.drop k) = fieldB 18 (linkBytes ls[k]) ++ linksBytes (ls.drop (k + 1)) := by
  rw [List.drop_eq_getElem_cons h]
  rfl
theorem linksBytes_drop_le (ls : List ML) (k : Nat) : (linksBytes (ls.drop k)).length ≤ (linksBytes ls).length := by
  have h : linksBytes ls = linksBytes (ls.take k) ++ linksBytes (ls.drop k) := by
    unfold linksBytes
    rw [← List.flatten_append, ← List.map_append, List.take_append_drop]
  rw [h, List.length_append]
  omega

set_option maxRecDepth 100000 in
set_option maxHeartbeats 4000000 in
theorem nodePut_any (p lo B g n c : Nat) (m : MN) (L : List UInt8) (w : World) (h : NodeObj w lo B p m) (hs : ShortN m) (hBg : B ≤ g) (hb : Blk w g 5 (u8s L).toArray) (hn : n ≤ L.length) (hn2 : n ≤ 140737488355328) (hnc : n ≤ c) (hfit : (nodeBytes m).length ≤ n) :
    Calls Tryd.prog 34 #[.pointer (some ⟨p, 0, none⟩), .slice (some ⟨g, 0, none⟩) n c] w (PutAll w g n L (nodeBytes m)) := by
  obtain ⟨links, data⟩ := m
  have HLO := Lib.hid h
  have HST := Lib.hid (PutSt.start hb hn)
  simp only [nodeBytes, List.length_append] at hfit
  have HFIT := Lib.hid hfit
  obtain ⟨v0, a1, b1⟩ := h.data
  simp only at b1
  obtain ⟨A, c0, rfl, hA, hle0, hr0, _⟩ := b1
  have HR0 := Lib.hid hr0
  have un := h.un
  have HS := Lib.hid hs
  clear hb hfit h hr0 hs
  go_enter Tryd.func34, Tryd.ntmps34
  go_upto_if 39 with fail
  go_cut [6] (fun s6 wx => ∃ i : Nat, s6 = .int .i64 i ∧ PutSt w g n L (optF 10 data) i wx)
  case first =>
    cases data with
    | none =>
      obtain rfl : A = none := by simpa using hA
      go_wp2
      go_meet
      exact ⟨n, rfl, HST.out⟩
    | some hb =>
      have hf := HFIT.out
      have hm : hb.length ≤ 500 := HS.out.d
      have hof : (optF 10 (some hb)).length = 1 + (uv hb.length).length + hb.length := fieldB_length _ _
      have hb2 : optF 10 (some hb) = 10 :: (uv hb.length ++ (hb ++ [])) := by
        show fieldB 10 hb = _
        rw [fieldB, List.append_nil]
      have hr0 : Reads w B 1 A hb.length (u8s hb) := HR0.out
      change w.cell? _ = some (.slice A hb.length c0) at a1
      obtain ⟨ad, rfl⟩ : ∃ ad, A = some ad := by
        cases A with
        | none => simp at hA
        | some ad => exact ⟨ad, rfl⟩
      generalize hml : hb.length = m at hm hof hb2 hr0 a1
      obtain ⟨i2, hi2⟩ : ∃ i2, i2 + 1 + (uv m).length + m = n := ⟨n - (1 + (uv m).length + m), by omega⟩
      obtain ⟨i3, hi3⟩ : ∃ i3, i2 + 1 + (uv m).length = i3 := ⟨_, rfl⟩
      rw [hi3] at hi2
      subst hi2
      have h2n : i2 < i3 + m := by omega
      have HI3 := Lib.hid hi3
      have HB2 := Lib.hid hb2
      have HR1 := Lib.hid hr0
      have HML := Lib.hid hml
      clear hf hof hb2 hi3 hr0 HR0 hml
      have h3i : (i3 : Int) ≤ (i3 : Int) + (m : Int) := by omega
      have hpg : p < g := Nat.lt_of_lt_of_le HLO.out.lt hBg
      have a0 := a1
      by_cases hic : c = i3
      · subst hic
        obtain rfl : m = 0 := by omega
        go_wp2_with fail
        go_region_law (first | (refine step_put_bytes rfl (.tmp 49) (.tmp 53) rfl g c c B 0 0 0 0 c0 (some ad) L _ hb HST.out.drew rfl rfl HR1.out.drew (.inr (by omega)) (by omega) ?_; intro w3 hst3; have HST3 := Lib.hid hst3; have k1 : w3.cell? ⟨p, 1, none⟩ = some (.slice (some ad) 0 c0) := (hst3.only.cell (p := ⟨p, 1, none⟩) hpg).trans a0; clear hst3) | fail)
        go_wp2_with (first | (go_at_call 41; refine (HST3.out.call (c := c) (by omega) HI3.out hn2).mono ?_; rintro e w4 ⟨rfl, hst4, ⟨old, hc4⟩, hf4⟩; have HST4 := Lib.hid hst4; clear hst4) | fail)
        go_meet
        exact ⟨i2, by go_num, by rw [HB2.out]; exact HST4.out.key 10 rfl⟩
      · go_wp2_with fail
        go_region_law (first | (refine step_put_bytes rfl (.tmp 49) (.tmp 53) rfl g (i3 + m) i3 B m i3 m (c - i3) c0 (some ad) L _ hb HST.out.drew rfl rfl HR1.out.drew (.inl rfl) (Nat.le_refl _) ?_; intro w3 hst3; have HST3 := Lib.hid hst3; have k1 : w3.cell? ⟨p, 1, none⟩ = some (.slice (some ad) m c0) := (hst3.only.cell (p := ⟨p, 1, none⟩) hpg).trans a0; clear hst3) | fail)
        go_wp2_with (first | (go_at_call 41; refine (HST3.out.call (c := c) (by omega) HI3.out hn2).mono ?_; rintro e w4 ⟨rfl, hst4, ⟨old, hc4⟩, hf4⟩; have HST4 := Lib.hid hst4; clear hst4) | fail)
        go_meet
        exact ⟨i2, by go_num, by rw [HB2.out]; exact HST4.out.key 10 rfl⟩
  case rest =>
    obtain ⟨i, rfl, st1⟩ := hcut
    have hpg : p < g := Nat.lt_of_lt_of_le HLO.out.lt hBg
    obtain ⟨A2, n2, c2, ps, a0, _, hln, hr2, hps⟩ := HLO.out.ls
    simp only at hln hps
    have k0 : wc.cell? ⟨p, 0, none⟩ = some (.slice A2 n2 c2) := (st1.only.cell (p := ⟨p, 0, none⟩) hpg).trans a0
    have HST1 := Lib.hid st1
    have HR2 := Lib.hid hr2
    have HPS := Lib.hid hps
    have HLN := Lib.hid hln
    have hn20 : n2 ≤ 20 := by have := HS.out.k; simp only at this; omega
    clear st1 a1 un hA a0 hr2 hps hln HR0 hle0
    by_cases hpos : 0 < n2
    · obtain ⟨b, o, rfl, hbB, hc⟩ := HR2.out.lit hpos
      have HC := Lib.hid hc
      clear hc
      have hg : decide ((0 : Int) < (n2 : Int)) = true := by simp; omega
      go_wp2
      go_loopw [6, 8, 9, 10] (fun s6 s8 _ _ wr => ∃ j i : Nat, j ≤ n2 ∧ s8 = .int .i64 ((j : Int) - 1) ∧ s6 = .int .i64 i ∧ PutSt w g n L (linksBytes (links.drop j) ++ optF 10 data) i wr) (fun _ s _ _ _ => (intOf s + 1).toNat)
      case atStart =>
        refine ⟨n2, i, Nat.le_refl _, rfl, rfl, ?_⟩
        rw [List.drop_of_length_le (by have := HLN.out; omega)]
        exact HST1.out
      case round =>
        obtain ⟨j, i, hj, rfl, rfl, hst⟩ := hrel
        rcases Nat.eq_zero_or_pos j with rfl | hjp
        · have st9 : PutSt w g n L (nodeBytes ⟨links, data⟩) i wr := hst
          have hl := st9.len
          have hi : i ≤ n := by omega
          have HST9 := Lib.hid st9
          have HL := Lib.hid hl
          clear hst st9 hl
          have e8 : (((0 : Nat) : Int) - 1) = (-1 : Int) := by omega
          rw [e8]
          go_wp2
          go_ret2
          have h1 := HL.out
          have hs1 := HST9.out
          refine ⟨?_, ?_⟩
          · show Ending.returned (.tuple #[.int .i64 ((n : Int) - (i : Int)), .nilIface]) = _
            rw [show (nodeBytes ⟨links, data⟩).length = n - i by omega]
            have : ((n - i : Nat) : Int) = (n : Int) - (i : Int) := by omega
            rw [this]
          · rw [show n - (nodeBytes ⟨links, data⟩).length = i by omega]
            exact hs1
        · obtain ⟨k, rfl⟩ : ∃ k, j = k + 1 := ⟨j - 1, by omega⟩
          have e8 : (((k + 1 : Nat) : Int) - 1) = (k : Int) := by omega
          rw [e8]
          have hk : k < n2 := by omega
          have hpl : ps.length = n2 := by have := HR2.out.1; rw [ptrs_length] at this; omega
          have hjp : k < ps.length := by omega
          have hcj := HC.out k (.pointer (some ⟨ps[k], 0, none⟩)) (by simp [ptrs, hjp])
          obtain ⟨x, hx, hlo⟩ := HPS.out k ps[k] (List.getElem?_eq_getElem hjp)
          have hjl : k < links.length := by have := HLN.out; omega
          have hxe : links[k] = x := by
            rw [List.getElem?_eq_getElem hjl] at hx
            injection hx
          have hxs : Short x := HS.out.ls x (hxe ▸ List.getElem_mem hjl)
          have htk := linksBytes_drop links k hjl
          rw [hxe] at htk
          have hle := linkBytes_le hlo hxs
          have hfl := fieldB_length 18 (linkBytes x)
          have hdl := linksBytes_drop_le links k
          have hlen := hst.len
          have hf := HFIT.out
          have hfit1 := hst.fit
          have hpl2 := put_length L i (linksBytes (links.drop (k + 1)) ++ optF 10 data) (by omega)
          rw [List.length_append] at hlen
          rw [htk, List.length_append, hfl] at hdl
          have hin : i ≤ n := by omega
          have hlo2 : LinkObj wr lo B ps[k] x := hlo.below (hst.only.mono hBg)
          have hbytes : linksBytes (links.drop k) ++ optF 10 data = 18 :: (uv (linkBytes x).length ++ (linkBytes x ++ (linksBytes (links.drop (k + 1)) ++ optF 10 data))) := by
            rw [htk, fieldB]
            simp
          have q0 : wr.cell? ⟨p, 0, none⟩ = some (.slice (some ⟨b, o, none⟩) n2 c2) := (hst.only.cell (p := ⟨p, 0, none⟩) hpg).trans ((HST1.out.only.cell (p := ⟨p, 0, none⟩) hpg).symm.trans k0)
          have q1 : wr.cell? ⟨b, o + k, none⟩ = some (.pointer (some ⟨ps[k], 0, none⟩)) := (hst.only.cell (p := ⟨b, o + k, none⟩) (Nat.lt_of_lt_of_le hbB hBg)).trans hcj
          have hic : i ≤ c := by omega
          obtain ⟨i2, hi2⟩ : ∃ i2, i2 + 1 + (uv (linkBytes x).length).length + (linkBytes x).length = i := ⟨i - (1 + (uv (linkBytes x).length).length + (linkBytes x).length), by omega⟩
          obtain ⟨i4, hi4⟩ : ∃ i4, i2 + 1 + (uv (linkBytes x).length).length = i4 := ⟨_, rfl⟩
          rw [hi4] at hi2
          have hcall : Calls Tryd.prog 42 #[.pointer (some ⟨ps[k], 0, none⟩), .slice (some ⟨g, 0, none⟩) i c] wr.drew fun e w2 => e = .returned (.tuple #[.int .i64 ((linkBytes x).length : Nat), .nilIface]) ∧ Hid (PutSt w g n L (linkBytes x ++ (linksBytes (links.drop (k + 1)) ++ optF 10 data)) i4 w2) := by
            refine (linkPut_any ps[k] lo B g i c x (put L i (linksBytes (links.drop (k + 1)) ++ optF 10 data)) wr.drew ⟨hlo2.le, hlo2.lt, hlo2.h, hlo2.nm, hlo2.sz, hlo2.un⟩ hxs hBg hst.drew.blk (by omega) (by omega) (by omega) (by omega)).mono ?_
            rintro e w2 ⟨rfl, hp⟩
            have hi : i - (linkBytes x).length = i4 := by omega
            rw [hi] at hp
            exact ⟨rfl, hst.drew.nest hp⟩
          generalize ps[k] = q at hcall q1
          have HB := Lib.hid hbytes
          have hle2 : (linkBytes x).length ≤ 215 := hle
          generalize (linkBytes x).length = m at hcall hi4 hi2 HB hle2
          have h2n : i2 < n := by omega
          have HI4 := Lib.hid hi4
          have HCALL := Lib.hid hcall
          have hi4n : i4 + m ≤ 140737488355328 := by omega
          subst hi2
          clear hx hlo hxe hxs htk hle hfl hdl hlen hf hfit1 hpl2 hin hlo2 hbytes hcj hpl hjp hjl hcall hi4 hst
          have hm64 : m < 18446744073709551616 := by omega
          have HM64 := Lib.hid hm64
          clear hm64
          have h1i : (0 : Int) ≤ (i4 : Int) + (m : Int) := by omega
          have h2i : (i4 : Int) + (m : Int) ≤ (c : Int) := by omega
          have h3i : ((i4 : Int) + (m : Int)).toNat = i4 + m := by omega
          go_wp2_with fail
          go_region_law (first | (go_simp; go_at_call 42; refine HCALL.out.mono ?_; rintro e w2 ⟨rfl, HST3⟩) | fail)
          clear h1i h2i h3i
          go_wp2_with (first | (go_at_call 41; refine (HST3.out.call (c := c) HM64.out HI4.out hn2).mono ?_; rintro e w4 ⟨rfl, hst4, ⟨old, hc4⟩, hf4⟩; have HST4 := Lib.hid hst4; clear hst4) | fail)
          go_roundw
          case rel => exact ⟨k, i2, by omega, by go_num, by go_num, by rw [HB.out]; exact HST4.out.key 18 rfl⟩
          case measure => simp [intOf]
    · obtain rfl : n2 = 0 := by omega
      have hl0 : links = [] := List.length_eq_zero_iff.mp HLN.out
      have st9 : PutSt w g n L (nodeBytes ⟨links, data⟩) i wc := by
        have h := HST1.out
        have e : nodeBytes ⟨links, data⟩ = optF 10 data := by simp [nodeBytes, linksBytes, hl0]
        rw [e]
        exact h
      have hl := st9.len
      have hi : i ≤ n := by omega
      have HST9 := Lib.hid st9
      have HL := Lib.hid hl
      clear st9 hl hl0
      go_wp2
      go_ret2
      have h1 := HL.out
      have hs1 := HST9.out
      refine ⟨?_, ?_⟩
      · show Ending.returned (.tuple #[.int .i64 ((n : Int) - (i : Int)), .nilIface]) = _
        rw [show (nodeBytes ⟨links, data⟩).length = n - i by omega]
        have : ((n - i : Nat) : Int) = (n : Int) - (i : Int) := by omega
        rw [this]
      · rw [show n - (nodeBytes ⟨links, data⟩).length = i by omega]
        exact hs1
end Go.Proofs.YthgbhaackihbjaaDoor
