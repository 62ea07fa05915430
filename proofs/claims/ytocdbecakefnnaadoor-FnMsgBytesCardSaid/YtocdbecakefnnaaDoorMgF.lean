/- MarshalToSizedBuffer of a block of a message. (Written by mbputgen.py.) -/
import Derived.Test.YtocdbecakefnnaaDoorMgE
namespace Go.Proofs.YtocdbecakefnnaaDoor
open Go.RowKit
set_option linter.unusedSimpArgs false

theorem bloB_len (x : Blo) : (bloB x).length = (partB 10 x.pre).length + (partB 18 x.data).length := by unfold bloB; rw [List.length_append]
set_option maxRecDepth 100000 in
set_option maxHeartbeats 8000000 in
theorem bloPut_any (x : Blo) (b o B g n c : Nat) (L : List UInt8) (w : World) (hx : ObjB w B b o (bloF x)) (hBg : B ≤ g) (hb : Blk w g 5 (u8s L).toArray) (hn : n ≤ L.length) (hn2 : n ≤ 140737488355328) (hnc : n ≤ c) (hfit : (bloB x).length ≤ n) :
    Calls Tryd.prog 58 #[.pointer (some ⟨b, o, none⟩), .slice (some ⟨g, 0, none⟩) n c] w (PutAll w g n L (bloB x)) := by
  have HLEN := Lib.hid (bloB_len x)
  rw [bloB_len] at hfit
  have HFIT := Lib.hid hfit
  have HX := Lib.hid hx
  have hbg : b < g := Nat.lt_of_lt_of_le hx.lt hBg
  have HST : Hid (PutSt w g n L [] n w) := Lib.hid (PutSt.start hb hn)
  clear hx hb hfit
  go_enter Tryd.func58, Tryd.ntmps58
  obtain ⟨A, c0, a1, hcc, r1⟩ := (HX.out.below (HST.out.only.mono hBg)).byt (i := 1) rfl
  (try simp only [Nat.add_zero] at a1)
  obtain ⟨m, hm⟩ : ∃ m, x.data.length = m := ⟨_, rfl⟩
  rw [hm] at a1 r1 hcc
  have HM := Lib.hid hm
  have HR := Lib.hid r1
  clear r1 hm
  go_upto_if 17 with fail
  go_cut [6] from 17 (fun s6 wx => ∃ i : Nat, s6 = .int .i64 i ∧ Hid (PutSt w g n L (partB 18 x.data) i wx))
  case first =>
    by_cases h0 : 0 < m
    · have g0 : (0 : Int) < (m : Int) := by omega
      have e0 : partB 18 x.data = 18 :: (uv m ++ x.data) := by rw [← HM.out]; exact if_pos (by rw [HM.out]; exact h0)
      have hf := HFIT.out
      have hl1 := HST.out.len
      rw [e0] at hf
      (try simp only [List.length_append, List.length_nil, List.length_cons] at hl1)
      simp only [List.length_append, List.length_cons, HM.out] at hf
      obtain ⟨i2, hi2⟩ : ∃ i2, i2 + 1 + (uv m).length = n - m := ⟨n - m - (1 + (uv m).length), by omega⟩
      obtain ⟨i3, hi3⟩ : ∃ i3, i3 + m = n := ⟨n - m, by omega⟩
      have hi4 : i2 + 1 + (uv m).length = i3 := by omega
      have e1 : (n : Int) - (m : Nat) = (i3 : Int) := by omega
      have hin : i2 < n := by omega
      have hi2n : i2 ≤ n := by omega
      have hi3n : i3 ≤ n := by omega
      have hi3c : ¬ c = i3 := by omega
      have hll : m ≤ n - i3 := by omega
      have hlc : m ≤ 140737488355328 := by omega
      have h3 : PutSt w g n L ([]) (i3 + m) w := by rw [hi3]; exact HST.out
      have HST3 := Lib.hid h3
      have HI4 := Lib.hid hi4
      have E0 := Lib.hid e0
      have b0 : w.cell? ⟨b, o + 1, none⟩ = some (.slice A m c0) := (HST.out.only.cell (p := ⟨b, o + 1, none⟩) hbg).symm.trans a1
      have B0 := Lib.hid b0
      clear hf hl1 hi2 hi3 hi4 h3 e0 b0 HST
      go_wp2_with fail
      go_region_law (first | (refine step_put_bytes rfl (.tmp 27) (.tmp 31) rfl g n i3 B m i3 (n - i3) (c - i3) c0 A L ([]) x.data HST3.out.drew rfl rfl HR.out.drew (.inl rfl) (by omega) ?_; intro w3 hst3; have HST4 := Lib.hid hst3; have k1 : w3.cell? ⟨b, o + 1, none⟩ = some (.slice A m c0) := (hst3.only.cell (p := ⟨b, o + 1, none⟩) hbg).trans B0.out; clear hst3) | fail)
      go_wp2_with (first | (go_at_call 56; (with_reducible refine (HST4.out.call (c := c) (by omega) HI4.out hn2).mono ?_); rintro e w2 ⟨rfl, hst2, ⟨old, hc2⟩, hf2⟩; have HST2 := Lib.hid hst2; clear hst2) | fail)
      go_meet
      exact ⟨i2, by go_num, Lib.hid (by rw [E0.out]; have h := HST2.out.key 18 (v := 18) rfl; simpa using h)⟩
    · obtain rfl : m = 0 := by omega
      have e0 : partB 18 x.data = [] := if_neg (by rw [HM.out]; exact h0)
      have E0 := Lib.hid e0
      clear e0
      go_wp2
      go_meet
      exact ⟨n, rfl, by rw [E0.out]; exact HST⟩
  case rest =>
    obtain ⟨i, rfl, st1⟩ := hcut
    clear HST a1 HR HM hcc
    have HST := st1
    clear st1
    obtain ⟨A, c0, a1, hcc, r1⟩ := (HX.out.below (HST.out.only.mono hBg)).byt (i := 0) rfl
    (try simp only [Nat.add_zero] at a1)
    obtain ⟨m, hm⟩ : ∃ m, x.pre.length = m := ⟨_, rfl⟩
    rw [hm] at a1 r1 hcc
    have HM := Lib.hid hm
    have HR := Lib.hid r1
    clear r1 hm
    go_upto_if 52 with fail
    go_cut [6] from 52 (fun s6 wx => ∃ i : Nat, s6 = .int .i64 i ∧ Hid (PutSt w g n L (partB 10 x.pre ++ partB 18 x.data) i wx))
    case first =>
      by_cases h0 : 0 < m
      · have g0 : (0 : Int) < (m : Int) := by omega
        have e0 : partB 10 x.pre = 10 :: (uv m ++ x.pre) := by rw [← HM.out]; exact if_pos (by rw [HM.out]; exact h0)
        have hf := HFIT.out
        have hl1 := HST.out.len
        rw [e0] at hf
        (try simp only [List.length_append, List.length_nil, List.length_cons] at hl1)
        simp only [List.length_append, List.length_cons, HM.out] at hf
        obtain ⟨i2, hi2⟩ : ∃ i2, i2 + 1 + (uv m).length = i - m := ⟨i - m - (1 + (uv m).length), by omega⟩
        obtain ⟨i3, hi3⟩ : ∃ i3, i3 + m = i := ⟨i - m, by omega⟩
        have hi4 : i2 + 1 + (uv m).length = i3 := by omega
        have e1 : (i : Int) - (m : Nat) = (i3 : Int) := by omega
        have hin : i2 < n := by omega
        have hi2n : i2 ≤ n := by omega
        have hi3n : i3 ≤ n := by omega
        have hi3c : ¬ c = i3 := by omega
        have hll : m ≤ n - i3 := by omega
        have hlc : m ≤ 140737488355328 := by omega
        have h3 : PutSt w g n L (partB 18 x.data) (i3 + m) wc := by rw [hi3]; exact HST.out
        have HST3 := Lib.hid h3
        have HI4 := Lib.hid hi4
        have E0 := Lib.hid e0
        have b0 : w.cell? ⟨b, o, none⟩ = some (.slice A m c0) := (HST.out.only.cell (p := ⟨b, o, none⟩) hbg).symm.trans a1
        have B0 := Lib.hid b0
        clear hf hl1 hi2 hi3 hi4 h3 e0 b0 HST
        go_wp2_with fail
        go_region_law (first | (refine step_put_bytes rfl (.tmp 62) (.tmp 66) rfl g n i3 B m i3 (n - i3) (c - i3) c0 A L (partB 18 x.data) x.pre HST3.out.drew rfl rfl HR.out.drew (.inl rfl) (by omega) ?_; intro w3 hst3; have HST4 := Lib.hid hst3; have k1 : w3.cell? ⟨b, o, none⟩ = some (.slice A m c0) := (hst3.only.cell (p := ⟨b, o, none⟩) hbg).trans B0.out; clear hst3) | fail)
        go_wp2_with (first | (go_at_call 56; (with_reducible refine (HST4.out.call (c := c) (by omega) HI4.out hn2).mono ?_); rintro e w2 ⟨rfl, hst2, ⟨old, hc2⟩, hf2⟩; have HST2 := Lib.hid hst2; clear hst2) | fail)
        go_meet
        exact ⟨i2, by go_num, Lib.hid (by rw [E0.out]; have h := HST2.out.key 10 (v := 10) rfl; simpa using h)⟩
      · obtain rfl : m = 0 := by omega
        have e0 : partB 10 x.pre = [] := if_neg (by rw [HM.out]; exact h0)
        have E0 := Lib.hid e0
        clear e0
        go_wp2
        go_meet
        exact ⟨i, rfl, by rw [E0.out]; exact HST⟩
    case rest =>
      obtain ⟨i, rfl, st1⟩ := hcut
      clear HST a1 HR HM hcc
      have HST := st1
      clear st1
      have hl1 := HST.out.len
      (try simp only [List.length_append] at hl1)
      have hin : i ≤ n := by omega
      have HEND : Hid (i + (bloB x).length = n) := Lib.hid (by rw [HLEN.out]; omega)
      clear hl1
      go_wp2
      go_ret2
      have h1 := HEND.out
      refine ⟨?_, ?_⟩
      · show Ending.returned (.tuple #[.int .i64 ((n : Int) - (i : Int)), .nilIface]) = _
        have : ((bloB x).length : Int) = (n : Int) - (i : Int) := by omega
        rw [this]
      · rw [show n - (bloB x).length = i by omega]
        exact HST.out
end Go.Proofs.YtocdbecakefnnaaDoor
