/- gobase32: Encode. -/
import Derived.Test.YtijbdinemjiepaaB32G
namespace Go.Proofs.Ytijbdinemjiepaa
open Go.RowKit Go.Lib

/-- What is written: i groups of eight letters. -/
structure Mid (w wr : World) (g i : Nat) (l : List UInt8) (M : List UInt8) : Prop where
  row : ByRow wr g M
  len : M.length = 1 + (enc5 l).length
  told : M.take (1 + 8 * i) = (row32 l).take (1 + 8 * i)
  only : w.grownBy wr (some g)
set_option maxRecDepth 100000 in
set_option maxHeartbeats 8000000 in
theorem encode_any (p g n m c cd B : Nat) (A D : Option Addr) (l L : List UInt8) (w : World) (hr : Reads w B 1 A n (u8s l)) (hA : 0 < n → ∀ ad, A = some ad → ad.block ≠ g) (hB : B ≤ w.heap.size) (hn : n ≤ 1000) (hnc : n ≤ c) (hc : c ≤ 9223372036854775807) (he : EncAt w p) (hp : p ≠ g) (hL : ByRow w g L) (hLl : L.length = 1 + (enc5 l).length) (hL0 : L.take 1 = [47])
    (hm : m = (enc5 l).length) (hD : 0 < m → D = some ⟨g, 1, none⟩) (hmc : m ≤ cd) (hcd : cd ≤ 9223372036854775807) :
    Calls Try.prog 25 #[.pointer (some ⟨p, 0, none⟩), .slice D m cd, .slice A n c] w fun e w' => e = .returned (.tuple #[]) ∧ ByRow w' g (row32 l) ∧ w.grownBy w' (some g) := by
  have hln : l.length = n := by have := hr.1; rw [u8s_length] at this; omega
  by_cases hn0 : n = 0
  · subst hn0
    obtain rfl : l = [] := List.length_eq_zero_iff.1 hln
    have e0 : L = row32 [] := by
      have : L.length = 1 := hLl
      exact (List.take_of_length_le (by omega)).symm.trans hL0
    rw [← e0]
    have HL := Lib.hid hL
    clear hr hA he hL e0
    go_enter Try.func25, Try.ntmps25
    go_wp2
    (try simp only [Exit.inBlock, Exit.then])
    refine bodyPost_ret (results_none rfl _ _ _) rfl ?_
    exact ⟨rfl, HL.out, World.grownBy.refl _ _⟩
  · have hel := enc5_length l
    have HM0 : Hid (Mid w w g 0 l L) := ⟨hL, hLl, hL0.trans (by simp [row32]), World.grownBy.refl _ _⟩
    have HR := Lib.hid hr
    have HE := Lib.hid he
    have HA := Lib.hid (hA (by omega))
    have HLN := Lib.hid hln
    have HM : Hid (m = (enc5 l).length ∧ m = (n * 8 + 4) / 5) := ⟨hm, by rw [hm, hel, hln]⟩
    have habs : abc.size = 32 := rfl
    clear hr he hA hln hL hLl hL0 hm hel
    go_enter Try.func25, Try.ntmps25
    go_wp2
    refine wp_loop_ghost_k (fun gk a wr => ∃ (i : Nat) (As Ad : Option Addr) (ns cs md ce : Nat) (M : List UInt8), Fe a (.pointer (some ⟨p, 0, none⟩)) (.slice Ad md ce) (.slice As ns cs) ∧ Hid (ns ≤ gk) ∧ ns + 5 * i = n ∧ md + 8 * i = m ∧ md ≤ ce ∧ ce ≤ 9223372036854775807 ∧ ns ≤ cs ∧ cs ≤ 9223372036854775807 ∧ (0 < md → Ad = some ⟨g, 1 + 8 * i, none⟩) ∧ Hid (Mid w wr g i l M) ∧ Hid (Reads w B 1 As ns (u8s (l.drop (5 * i)))) ∧ Hid (∀ ad, As = some ad → ad.block ≠ g)) n ?start ?round
    case start => exact ⟨0, A, D, n, c, m, cd, L, ⟨rfl, rfl, rfl, rfl, rfl⟩, Nat.le_refl n, by omega, by omega, hmc, hcd, hnc, hc, hD, HM0.out, by show Reads _ _ _ _ _ _; simpa using HR.out, HA.out⟩
    case round =>
      intro gk a wr hI J2 K2 hJ2 hK2
      obtain ⟨i, As, Ad, ns, cs, md, ce, M, hfr, HGK, hni, hmi, hmd, hce, hns, hcs, hAd, HMid, HRs, HAs⟩ := hI
      have HNI0 : Hid (md + 8 * i = (enc5 l).length ∧ md = (ns * 8 + 4) / 5) := by obtain ⟨h1, h2⟩ := HM.out; exact ⟨by omega, by omega⟩
      have hdl : (l.drop (5 * i)).length = ns := by have h := HRs.out.1; rw [u8s_length] at h; omega
      have HL : Hid (M.length = 1 + (enc5 l).length) := HMid.out.len
      have HI5 : Hid (5 * i ≤ l.length) := by show _ ≤ _; have := HLN.out; omega
      have HA0 := Lib.hid HMid.out.row
      have HO0 := Lib.hid HMid.out.only
      obtain ⟨u, rfl⟩ := hfr.open_
      clear hfr
      by_cases hlt : 4 < ns
      · have hmd8 : 8 ≤ md := by have := HNI0.out.2; omega
        obtain rfl := hAd (by omega)
        obtain ⟨b, o, rfl, hbB, _⟩ := HRs.out.lit (show 0 < ns by omega)
        have hbw : b < w.heap.size := Nat.lt_of_lt_of_le hbB hB
        have hbg : b ≠ g := HAs.out _ rfl
        have g1 : (4 : Int) < (ns : Int) := by omega
        obtain ⟨y0, y1, y2, y3, y4, t, hd⟩ : ∃ y0 y1 y2 y3 y4 t, l.drop (5 * i) = y0 :: y1 :: y2 :: y3 :: y4 :: t := by
          match hx : l.drop (5 * i), hdl with
          | [], h => simp at h; omega
          | [_], h => simp at h; omega
          | [_, _], h => simp at h; omega
          | [_, _, _], h => simp at h; omega
          | [_, _, _, _], h => simp at h; omega
          | a :: b :: c :: d :: e :: t, _ => exact ⟨a, b, c, d, e, t, rfl⟩
        have HS0 : Hid (Src w b o (y0 :: y1 :: y2 :: y3 :: y4 :: t)) := by show Src _ _ _ _; rw [← hd]; exact src_of HRs.out
        have HSr := Lib.hid (HS0.out.past HO0.out hbw hbg)
        have HD := Lib.hid hd
        have HNI : Hid (8 * i + 8 ≤ (enc5 l).length) := by show _ ≤ _; have := HNI0.out.1; omega
        clear hd hdl
        obtain ⟨z0, hz⟩ : ∃ z, y0.toNat = z := ⟨_, rfl⟩
        have h0 : z0 < 256 := by rw [← hz]; exact UInt8.toNat_lt _
        have HZ0 := Lib.hid hz
        clear hz
        obtain ⟨z1, hz⟩ : ∃ z, y1.toNat = z := ⟨_, rfl⟩
        have h1 : z1 < 256 := by rw [← hz]; exact UInt8.toNat_lt _
        have HZ1 := Lib.hid hz
        clear hz
        obtain ⟨z2, hz⟩ : ∃ z, y2.toNat = z := ⟨_, rfl⟩
        have h2 : z2 < 256 := by rw [← hz]; exact UInt8.toNat_lt _
        have HZ2 := Lib.hid hz
        clear hz
        obtain ⟨z3, hz⟩ : ∃ z, y3.toNat = z := ⟨_, rfl⟩
        have h3 : z3 < 256 := by rw [← hz]; exact UInt8.toNat_lt _
        have HZ3 := Lib.hid hz
        clear hz
        obtain ⟨z4, hz⟩ : ∃ z, y4.toNat = z := ⟨_, rfl⟩
        have h4 : z4 < 256 := by rw [← hz]; exact UInt8.toNat_lt _
        have HZ4 := Lib.hid hz
        clear hz
        have hix : 1 + 8 * i + 7 < (M).length := by (try simp only [List.length_set]); have := HL.out; have := HNI.out; omega
        obtain ⟨d1, d2⟩ := HA0.out.at_ (1 + 8 * i + 7) _ (List.getElem?_eq_getElem hix)
        generalize (M)[1 + 8 * i + 7]'hix = old at d1
        have r4 : wr.cell? ⟨b, o + 4, none⟩ = some (.int .u8 (z4 : Nat)) := by have h := HSr.out 4 _ rfl; rw [HZ4.out] at h; exact h
        have s0 : wr.cell? ⟨p, 0, none⟩ = some (.string abc) := HE.out.str HO0.out hp
        obtain ⟨k, hk⟩ : ∃ k, z4 % 32 = k := ⟨_, rfl⟩
        have hk32 : k < 32 := by omega
        have hk32' : k < abc.size := hk32
        have e0 : bits .and .u8 (z4 : Int) 31 = (k : Int) := by rw [and_31 z4 h4, hk]
        have e1 : (z4 : Int) % 32 = (k : Int) := by omega
        obtain ⟨x7, hx, hxl⟩ := abc_get k hk32'
        have HX7 : Hid (letter (z4 % 32) = x7) := by show _ = _; rw [hk]; exact hxl
        have g4 : (k : Int) < 32 := by omega
        have gq : (7 : Int) < (md : Int) := by omega
        clear hk hxl hix
        go_wp2_with fail
        apply wp_hold
        · intro hX
          go_region
          exact hX.out
        have HA1 := Lib.hid ((HA0.out.set (1 + 8 * i + 7) x7 (by (try simp only [List.length_set]); have := HL.out; have := HNI.out; omega)).drew)
        have HO1 := Lib.hid (only_drew (only_setb HO0.out (1 + 8 * i + 7) (.int .u8 (x7.toNat : Int))))
        generalize (wr.setCell ⟨g, 1 + 8 * i + 7, none⟩ (.int .u8 (x7.toNat : Int))).drew = wz1 at HA1 HO1 ⊢
        have HS1 := Lib.hid (HS0.out.past HO1.out hbw hbg)
        clear d1 d2 s0 gq HA0 HO0 r4 e0 e1
        have hix : 1 + 8 * i + 6 < ((M).set (1 + 8 * i + 7) x7).length := by (try simp only [List.length_set]); have := HL.out; have := HNI.out; omega
        obtain ⟨d1, d2⟩ := HA1.out.at_ (1 + 8 * i + 6) _ (List.getElem?_eq_getElem hix)
        generalize ((M).set (1 + 8 * i + 7) x7)[1 + 8 * i + 6]'hix = old at d1
        have r3 : wz1.cell? ⟨b, o + 3, none⟩ = some (.int .u8 (z3 : Nat)) := by have h := HS1.out 3 _ rfl; rw [HZ3.out] at h; exact h
        have r4 : wz1.cell? ⟨b, o + 4, none⟩ = some (.int .u8 (z4 : Nat)) := by have h := HS1.out 4 _ rfl; rw [HZ4.out] at h; exact h
        have s0 : wz1.cell? ⟨p, 0, none⟩ = some (.string abc) := HE.out.str HO1.out hp
        obtain ⟨k, hk⟩ : ∃ k, z3 % 4 * 8 + z4 / 32 = k := ⟨_, rfl⟩
        have hk32 : k < 32 := by omega
        have hk32' : k < abc.size := hk32
        have e0 : bits .or .u8 ((z4 : Int) / 32) ((z3 : Int) * 8 % 32) = (k : Int) := dg6 h4 hk
        obtain ⟨x6, hx, hxl⟩ := abc_get k hk32'
        have HX6 : Hid (letter (z3 % 4 * 8 + z4 / 32) = x6) := by show _ = _; rw [hk]; exact hxl
        have g4 : (k : Int) < 32 := by omega
        have gq : (6 : Int) < (md : Int) := by omega
        clear hk hxl hix
        go_wp2_with fail
        apply wp_hold
        · intro hX
          go_region
          exact hX.out
        have HA2 := Lib.hid ((HA1.out.set (1 + 8 * i + 6) x6 (by (try simp only [List.length_set]); have := HL.out; have := HNI.out; omega)).drew)
        have HO2 := Lib.hid (only_drew (only_setb HO1.out (1 + 8 * i + 6) (.int .u8 (x6.toNat : Int))))
        generalize (wz1.setCell ⟨g, 1 + 8 * i + 6, none⟩ (.int .u8 (x6.toNat : Int))).drew = wz2 at HA2 HO2 ⊢
        have HS2 := Lib.hid (HS0.out.past HO2.out hbw hbg)
        clear d1 d2 s0 gq HA1 HO1 r3 r4 e0 HS1
        have hix : 1 + 8 * i + 5 < (((M).set (1 + 8 * i + 7) x7).set (1 + 8 * i + 6) x6).length := by (try simp only [List.length_set]); have := HL.out; have := HNI.out; omega
        obtain ⟨d1, d2⟩ := HA2.out.at_ (1 + 8 * i + 5) _ (List.getElem?_eq_getElem hix)
        generalize (((M).set (1 + 8 * i + 7) x7).set (1 + 8 * i + 6) x6)[1 + 8 * i + 5]'hix = old at d1
        have r3 : wz2.cell? ⟨b, o + 3, none⟩ = some (.int .u8 (z3 : Nat)) := by have h := HS2.out 3 _ rfl; rw [HZ3.out] at h; exact h
        have s0 : wz2.cell? ⟨p, 0, none⟩ = some (.string abc) := HE.out.str HO2.out hp
        obtain ⟨k, hk⟩ : ∃ k, z3 / 4 % 32 = k := ⟨_, rfl⟩
        have hk32 : k < 32 := by omega
        have hk32' : k < abc.size := hk32
        have e0 : (z3 : Int) / 4 % 32 = (k : Int) := by omega
        obtain ⟨x5, hx, hxl⟩ := abc_get k hk32'
        have HX5 : Hid (letter (z3 / 4 % 32) = x5) := by show _ = _; rw [hk]; exact hxl
        have g4 : (k : Int) < 32 := by omega
        have gq : (5 : Int) < (md : Int) := by omega
        clear hk hxl hix
        go_wp2_with fail
        apply wp_hold
        · intro hX
          go_region
          exact hX.out
        have HA3 := Lib.hid ((HA2.out.set (1 + 8 * i + 5) x5 (by (try simp only [List.length_set]); have := HL.out; have := HNI.out; omega)).drew)
        have HO3 := Lib.hid (only_drew (only_setb HO2.out (1 + 8 * i + 5) (.int .u8 (x5.toNat : Int))))
        generalize (wz2.setCell ⟨g, 1 + 8 * i + 5, none⟩ (.int .u8 (x5.toNat : Int))).drew = wz3 at HA3 HO3 ⊢
        have HS3 := Lib.hid (HS0.out.past HO3.out hbw hbg)
        clear d1 d2 s0 gq HA2 HO2 r3 e0 HS2
        have hix : 1 + 8 * i + 4 < ((((M).set (1 + 8 * i + 7) x7).set (1 + 8 * i + 6) x6).set (1 + 8 * i + 5) x5).length := by (try simp only [List.length_set]); have := HL.out; have := HNI.out; omega
        obtain ⟨d1, d2⟩ := HA3.out.at_ (1 + 8 * i + 4) _ (List.getElem?_eq_getElem hix)
        generalize ((((M).set (1 + 8 * i + 7) x7).set (1 + 8 * i + 6) x6).set (1 + 8 * i + 5) x5)[1 + 8 * i + 4]'hix = old at d1
        have r2 : wz3.cell? ⟨b, o + 2, none⟩ = some (.int .u8 (z2 : Nat)) := by have h := HS3.out 2 _ rfl; rw [HZ2.out] at h; exact h
        have r3 : wz3.cell? ⟨b, o + 3, none⟩ = some (.int .u8 (z3 : Nat)) := by have h := HS3.out 3 _ rfl; rw [HZ3.out] at h; exact h
        have s0 : wz3.cell? ⟨p, 0, none⟩ = some (.string abc) := HE.out.str HO3.out hp
        obtain ⟨k, hk⟩ : ∃ k, z2 % 16 * 2 + z3 / 128 = k := ⟨_, rfl⟩
        have hk32 : k < 32 := by omega
        have hk32' : k < abc.size := hk32
        have e0 : bits .or .u8 ((z3 : Int) / 128) ((z2 : Int) * 2 % 32) = (k : Int) := dg4 h3 hk
        obtain ⟨x4, hx, hxl⟩ := abc_get k hk32'
        have HX4 : Hid (letter (z2 % 16 * 2 + z3 / 128) = x4) := by show _ = _; rw [hk]; exact hxl
        have g4 : (k : Int) < 32 := by omega
        have gq : (4 : Int) < (md : Int) := by omega
        clear hk hxl hix
        go_wp2_with fail
        apply wp_hold
        · intro hX
          go_region
          exact hX.out
        have HA4 := Lib.hid ((HA3.out.set (1 + 8 * i + 4) x4 (by (try simp only [List.length_set]); have := HL.out; have := HNI.out; omega)).drew)
        have HO4 := Lib.hid (only_drew (only_setb HO3.out (1 + 8 * i + 4) (.int .u8 (x4.toNat : Int))))
        generalize (wz3.setCell ⟨g, 1 + 8 * i + 4, none⟩ (.int .u8 (x4.toNat : Int))).drew = wz4 at HA4 HO4 ⊢
        have HS4 := Lib.hid (HS0.out.past HO4.out hbw hbg)
        clear d1 d2 s0 gq HA3 HO3 r2 r3 e0 HS3
        have hix : 1 + 8 * i + 3 < (((((M).set (1 + 8 * i + 7) x7).set (1 + 8 * i + 6) x6).set (1 + 8 * i + 5) x5).set (1 + 8 * i + 4) x4).length := by (try simp only [List.length_set]); have := HL.out; have := HNI.out; omega
        obtain ⟨d1, d2⟩ := HA4.out.at_ (1 + 8 * i + 3) _ (List.getElem?_eq_getElem hix)
        generalize (((((M).set (1 + 8 * i + 7) x7).set (1 + 8 * i + 6) x6).set (1 + 8 * i + 5) x5).set (1 + 8 * i + 4) x4)[1 + 8 * i + 3]'hix = old at d1
        have r1 : wz4.cell? ⟨b, o + 1, none⟩ = some (.int .u8 (z1 : Nat)) := by have h := HS4.out 1 _ rfl; rw [HZ1.out] at h; exact h
        have r2 : wz4.cell? ⟨b, o + 2, none⟩ = some (.int .u8 (z2 : Nat)) := by have h := HS4.out 2 _ rfl; rw [HZ2.out] at h; exact h
        have s0 : wz4.cell? ⟨p, 0, none⟩ = some (.string abc) := HE.out.str HO4.out hp
        obtain ⟨k, hk⟩ : ∃ k, z1 % 2 * 16 + z2 / 16 = k := ⟨_, rfl⟩
        have hk32 : k < 32 := by omega
        have hk32' : k < abc.size := hk32
        have e0 : bits .and .u8 (bits .or .u8 ((z2 : Int) / 16) ((z1 : Int) * 16 % 256)) 31 = (k : Int) := dg3f h2 hk
        obtain ⟨x3, hx, hxl⟩ := abc_get k hk32'
        have HX3 : Hid (letter (z1 % 2 * 16 + z2 / 16) = x3) := by show _ = _; rw [hk]; exact hxl
        have g4 : (k : Int) < 32 := by omega
        have gq : (3 : Int) < (md : Int) := by omega
        clear hk hxl hix
        go_wp2_with fail
        apply wp_hold
        · intro hX
          go_region
          exact hX.out
        have HA5 := Lib.hid ((HA4.out.set (1 + 8 * i + 3) x3 (by (try simp only [List.length_set]); have := HL.out; have := HNI.out; omega)).drew)
        have HO5 := Lib.hid (only_drew (only_setb HO4.out (1 + 8 * i + 3) (.int .u8 (x3.toNat : Int))))
        generalize (wz4.setCell ⟨g, 1 + 8 * i + 3, none⟩ (.int .u8 (x3.toNat : Int))).drew = wz5 at HA5 HO5 ⊢
        have HS5 := Lib.hid (HS0.out.past HO5.out hbw hbg)
        clear d1 d2 s0 gq HA4 HO4 r1 r2 e0 HS4
        have hix : 1 + 8 * i + 2 < ((((((M).set (1 + 8 * i + 7) x7).set (1 + 8 * i + 6) x6).set (1 + 8 * i + 5) x5).set (1 + 8 * i + 4) x4).set (1 + 8 * i + 3) x3).length := by (try simp only [List.length_set]); have := HL.out; have := HNI.out; omega
        obtain ⟨d1, d2⟩ := HA5.out.at_ (1 + 8 * i + 2) _ (List.getElem?_eq_getElem hix)
        generalize ((((((M).set (1 + 8 * i + 7) x7).set (1 + 8 * i + 6) x6).set (1 + 8 * i + 5) x5).set (1 + 8 * i + 4) x4).set (1 + 8 * i + 3) x3)[1 + 8 * i + 2]'hix = old at d1
        have r1 : wz5.cell? ⟨b, o + 1, none⟩ = some (.int .u8 (z1 : Nat)) := by have h := HS5.out 1 _ rfl; rw [HZ1.out] at h; exact h
        have s0 : wz5.cell? ⟨p, 0, none⟩ = some (.string abc) := HE.out.str HO5.out hp
        obtain ⟨k, hk⟩ : ∃ k, z1 / 2 % 32 = k := ⟨_, rfl⟩
        have hk32 : k < 32 := by omega
        have hk32' : k < abc.size := hk32
        have e0 : (z1 : Int) / 2 % 32 = (k : Int) := by omega
        obtain ⟨x2, hx, hxl⟩ := abc_get k hk32'
        have HX2 : Hid (letter (z1 / 2 % 32) = x2) := by show _ = _; rw [hk]; exact hxl
        have g4 : (k : Int) < 32 := by omega
        have gq : (2 : Int) < (md : Int) := by omega
        clear hk hxl hix
        go_wp2_with fail
        apply wp_hold
        · intro hX
          go_region
          exact hX.out
        have HA6 := Lib.hid ((HA5.out.set (1 + 8 * i + 2) x2 (by (try simp only [List.length_set]); have := HL.out; have := HNI.out; omega)).drew)
        have HO6 := Lib.hid (only_drew (only_setb HO5.out (1 + 8 * i + 2) (.int .u8 (x2.toNat : Int))))
        generalize (wz5.setCell ⟨g, 1 + 8 * i + 2, none⟩ (.int .u8 (x2.toNat : Int))).drew = wz6 at HA6 HO6 ⊢
        have HS6 := Lib.hid (HS0.out.past HO6.out hbw hbg)
        clear d1 d2 s0 gq HA5 HO5 r1 e0 HS5
        have hix : 1 + 8 * i + 1 < (((((((M).set (1 + 8 * i + 7) x7).set (1 + 8 * i + 6) x6).set (1 + 8 * i + 5) x5).set (1 + 8 * i + 4) x4).set (1 + 8 * i + 3) x3).set (1 + 8 * i + 2) x2).length := by (try simp only [List.length_set]); have := HL.out; have := HNI.out; omega
        obtain ⟨d1, d2⟩ := HA6.out.at_ (1 + 8 * i + 1) _ (List.getElem?_eq_getElem hix)
        generalize (((((((M).set (1 + 8 * i + 7) x7).set (1 + 8 * i + 6) x6).set (1 + 8 * i + 5) x5).set (1 + 8 * i + 4) x4).set (1 + 8 * i + 3) x3).set (1 + 8 * i + 2) x2)[1 + 8 * i + 1]'hix = old at d1
        have r0 : wz6.cell? ⟨b, o, none⟩ = some (.int .u8 (z0 : Nat)) := by have h := HS6.out 0 _ rfl; rw [HZ0.out] at h; exact h
        have r1 : wz6.cell? ⟨b, o + 1, none⟩ = some (.int .u8 (z1 : Nat)) := by have h := HS6.out 1 _ rfl; rw [HZ1.out] at h; exact h
        have s0 : wz6.cell? ⟨p, 0, none⟩ = some (.string abc) := HE.out.str HO6.out hp
        obtain ⟨k, hk⟩ : ∃ k, z0 % 8 * 4 + z1 / 64 = k := ⟨_, rfl⟩
        have hk32 : k < 32 := by omega
        have hk32' : k < abc.size := hk32
        have e0 : bits .and .u8 (bits .or .u8 ((z1 : Int) / 64) ((z0 : Int) * 4 % 256)) 31 = (k : Int) := dg1f h1 hk
        obtain ⟨x1, hx, hxl⟩ := abc_get k hk32'
        have HX1 : Hid (letter (z0 % 8 * 4 + z1 / 64) = x1) := by show _ = _; rw [hk]; exact hxl
        have g4 : (k : Int) < 32 := by omega
        have gq : (1 : Int) < (md : Int) := by omega
        clear hk hxl hix
        go_wp2_with fail
        apply wp_hold
        · intro hX
          go_region
          exact hX.out
        have HA7 := Lib.hid ((HA6.out.set (1 + 8 * i + 1) x1 (by (try simp only [List.length_set]); have := HL.out; have := HNI.out; omega)).drew)
        have HO7 := Lib.hid (only_drew (only_setb HO6.out (1 + 8 * i + 1) (.int .u8 (x1.toNat : Int))))
        generalize (wz6.setCell ⟨g, 1 + 8 * i + 1, none⟩ (.int .u8 (x1.toNat : Int))).drew = wz7 at HA7 HO7 ⊢
        have HS7 := Lib.hid (HS0.out.past HO7.out hbw hbg)
        clear d1 d2 s0 gq HA6 HO6 r0 r1 e0 HS6
        have hix : 1 + 8 * i < ((((((((M).set (1 + 8 * i + 7) x7).set (1 + 8 * i + 6) x6).set (1 + 8 * i + 5) x5).set (1 + 8 * i + 4) x4).set (1 + 8 * i + 3) x3).set (1 + 8 * i + 2) x2).set (1 + 8 * i + 1) x1).length := by (try simp only [List.length_set]); have := HL.out; have := HNI.out; omega
        obtain ⟨d1, d2⟩ := HA7.out.at_ (1 + 8 * i) _ (List.getElem?_eq_getElem hix)
        generalize ((((((((M).set (1 + 8 * i + 7) x7).set (1 + 8 * i + 6) x6).set (1 + 8 * i + 5) x5).set (1 + 8 * i + 4) x4).set (1 + 8 * i + 3) x3).set (1 + 8 * i + 2) x2).set (1 + 8 * i + 1) x1)[1 + 8 * i]'hix = old at d1
        have r0 : wz7.cell? ⟨b, o, none⟩ = some (.int .u8 (z0 : Nat)) := by have h := HS7.out 0 _ rfl; rw [HZ0.out] at h; exact h
        have s0 : wz7.cell? ⟨p, 0, none⟩ = some (.string abc) := HE.out.str HO7.out hp
        obtain ⟨k, hk⟩ : ∃ k, z0 / 8 = k := ⟨_, rfl⟩
        have hk32 : k < 32 := by omega
        have hk32' : k < abc.size := hk32
        have e0 : (z0 : Int) / 8 = (k : Int) := by omega
        obtain ⟨x0, hx, hxl⟩ := abc_get k hk32'
        have HX0 : Hid (letter (z0 / 8) = x0) := by show _ = _; rw [hk]; exact hxl
        have g4 : (k : Int) < 32 := by omega
        have gq : (0 : Int) < (md : Int) := by omega
        clear hk hxl hix
        go_wp2_with fail
        apply wp_hold
        · intro hX
          go_region
          exact hX.out
        have HA8 := Lib.hid ((HA7.out.set (1 + 8 * i) x0 (by (try simp only [List.length_set]); have := HL.out; have := HNI.out; omega)).drew)
        have HO8 := Lib.hid (only_drew (only_setb HO7.out (1 + 8 * i) (.int .u8 (x0.toNat : Int))))
        generalize (wz7.setCell ⟨g, 1 + 8 * i, none⟩ (.int .u8 (x0.toNat : Int))).drew = wz8 at HA8 HO8 ⊢
        have HS8 := Lib.hid (HS0.out.past HO8.out hbw hbg)
        clear d1 d2 s0 gq HA7 HO7 r0 e0 HS7
        clear h0 h1 h2 h3 h4
        have HM8 : Hid (Mid w wz8 g (i + 1) l (((((((((M).set (1 + 8 * i + 7) x7).set (1 + 8 * i + 6) x6).set (1 + 8 * i + 5) x5).set (1 + 8 * i + 4) x4).set (1 + 8 * i + 3) x3).set (1 + 8 * i + 2) x2).set (1 + 8 * i + 1) x1).set (1 + 8 * i) x0)) := by
          refine ⟨HA8.out, by (try simp only [List.length_set]); exact HL.out, ?_, HO8.out⟩
          have hR := row32_drop l i HI5.out
          rw [HD.out, enc5] at hR
          simp only [List.map_cons, HZ0.out, HZ1.out, HZ2.out, HZ3.out, HZ4.out, HX0.out, HX1.out, HX2.out, HX3.out, HX4.out, HX5.out, HX6.out, HX7.out] at hR
          rw [show 1 + 8 * (i + 1) = 1 + 8 * i + 8 by omega]
          exact eight_set M (row32 l) (1 + 8 * i) _ _ _ _ _ _ _ _ _ (by have := HL.out; have := HNI.out; omega) HMid.out.told hR
        generalize ((((((((M).set (1 + 8 * i + 7) x7).set (1 + 8 * i + 6) x6).set (1 + 8 * i + 5) x5).set (1 + 8 * i + 4) x4).set (1 + 8 * i + 3) x3).set (1 + 8 * i + 2) x2).set (1 + 8 * i + 1) x1).set (1 + 8 * i) x0 = M8 at *
        have HC := Lib.hid (cut_src HRs.out (k := 5) (by omega) hns)
        have g5 : (5 : Int) ≤ (ns : Int) := by omega
        have g6 : (5 : Int) ≤ (cs : Int) := by omega
        have g7 : (8 : Int) ≤ (md : Int) := by omega
        have g8 : (8 : Int) ≤ (ce : Int) := by omega
        clear HX0 HX1 HX2 HX3 HX4 HX5 HX6 HX7 HZ0 HZ1 HZ2 HZ3 HZ4 HA8 HO8 HS8
        have Q1 : Hid (ns - 5 + 5 * (i + 1) = n) := by show _ = _; omega
        have Q2 : Hid (md - 8 + 8 * (i + 1) = m) := by show _ = _; omega
        have Q3 : Hid (gk - 1 < gk) := by show _ < _; have := HGK.out; omega
        have Q4 : Hid (ns - 5 ≤ gk - 1) := by show _ ≤ _; have := HGK.out; omega
        have Q5 : Hid (ns - 5 ≤ cs - 5) := by show _ ≤ _; omega
        have Q6 : Hid (md - 8 ≤ ce - 8) := by show _ ≤ _; omega
        have Q7 : Hid (cs - 5 ≤ 9223372036854775807) := by show _ ≤ _; omega
        have Q8 : Hid (ce - 8 ≤ 9223372036854775807) := by show _ ≤ _; omega
        have Q9 : Hid (1 + 8 * i + 8 = 1 + 8 * (i + 1)) := by show _ = _; omega
        by_cases hc5 : cs = 5
        · have R5 : Hid (ns - 5 ≤ 0) := by show _ ≤ _; have h := Q5.out; rw [hc5] at h; exact h
          have R7 : Hid (0 ≤ 9223372036854775807) := Nat.zero_le _
          by_cases hc8 : ce = 8
          · have R6 : Hid (md - 8 ≤ 0) := by show _ ≤ _; have h := Q6.out; rw [hc8] at h; exact h
            have R8 : Hid (0 ≤ 9223372036854775807) := Nat.zero_le _
            go_wp2
            refine Handed.intro (gk - 1) Q3.out (hJ2 _ _ _ ?_)
            refine ⟨i + 1, _, _, ns - 5, 0, md - 8, 0, M8, ⟨rfl, rfl, rfl, rfl, rfl⟩, Q4.out, Q1.out, Q2.out, R6.out, R8.out, R5.out, R7.out, ?_, HM8.out, ?_, ?_⟩
            · intro hmd0
              exact absurd hmd0 (Nat.not_lt.2 R6.out)
            · show Reads _ _ _ _ _ _
              have h := HC.out
              rw [List.drop_drop, show 5 * i + 5 = 5 * (i + 1) from rfl, if_pos hc5] at h
              exact h
            · show ∀ ad, _
              intro ad e
              injection e with e
              subst e
              exact hbg
          · have R6 := Q6
            have R8 : Hid (ce - 8 ≤ 9223372036854775807) := Q8.out
            go_wp2
            refine Handed.intro (gk - 1) Q3.out (hJ2 _ _ _ ?_)
            refine ⟨i + 1, _, _, ns - 5, 0, md - 8, ce - 8, M8, ⟨rfl, rfl, rfl, rfl, rfl⟩, Q4.out, Q1.out, Q2.out, R6.out, R8.out, R5.out, R7.out, ?_, HM8.out, ?_, ?_⟩
            · intro hmd0
              exact congrArg some (congrArg (fun x => (⟨g, x, none⟩ : Addr)) Q9.out)
            · show Reads _ _ _ _ _ _
              have h := HC.out
              rw [List.drop_drop, show 5 * i + 5 = 5 * (i + 1) from rfl, if_pos hc5] at h
              exact h
            · show ∀ ad, _
              intro ad e
              injection e with e
              subst e
              exact hbg
        · have R5 := Q5
          have R7 : Hid (cs - 5 ≤ 9223372036854775807) := Q7.out
          by_cases hc8 : ce = 8
          · have R6 : Hid (md - 8 ≤ 0) := by show _ ≤ _; have h := Q6.out; rw [hc8] at h; exact h
            have R8 : Hid (0 ≤ 9223372036854775807) := Nat.zero_le _
            go_wp2
            refine Handed.intro (gk - 1) Q3.out (hJ2 _ _ _ ?_)
            refine ⟨i + 1, _, _, ns - 5, cs - 5, md - 8, 0, M8, ⟨rfl, rfl, rfl, rfl, rfl⟩, Q4.out, Q1.out, Q2.out, R6.out, R8.out, R5.out, R7.out, ?_, HM8.out, ?_, ?_⟩
            · intro hmd0
              exact absurd hmd0 (Nat.not_lt.2 R6.out)
            · show Reads _ _ _ _ _ _
              have h := HC.out
              rw [List.drop_drop, show 5 * i + 5 = 5 * (i + 1) from rfl, if_neg hc5] at h
              exact h
            · show ∀ ad, _
              intro ad e
              injection e with e
              subst e
              exact hbg
          · have R6 := Q6
            have R8 : Hid (ce - 8 ≤ 9223372036854775807) := Q8.out
            go_wp2
            refine Handed.intro (gk - 1) Q3.out (hJ2 _ _ _ ?_)
            refine ⟨i + 1, _, _, ns - 5, cs - 5, md - 8, ce - 8, M8, ⟨rfl, rfl, rfl, rfl, rfl⟩, Q4.out, Q1.out, Q2.out, R6.out, R8.out, R5.out, R7.out, ?_, HM8.out, ?_, ?_⟩
            · intro hmd0
              exact congrArg some (congrArg (fun x => (⟨g, x, none⟩ : Addr)) Q9.out)
            · show Reads _ _ _ _ _ _
              have h := HC.out
              rw [List.drop_drop, show 5 * i + 5 = 5 * (i + 1) from rfl, if_neg hc5] at h
              exact h
            · show ∀ ad, _
              intro ad e
              injection e with e
              subst e
              exact hbg
      · have hcase : ns = 0 ∧ md = 0 ∨ ns = 1 ∧ md = 2 ∨ ns = 2 ∧ md = 4 ∨ ns = 3 ∧ md = 5 ∨ ns = 4 ∧ md = 7 := by have := HNI0.out.2; omega
        clear hlt
        rcases hcase with ⟨rfl, rfl⟩ | ⟨rfl, rfl⟩ | ⟨rfl, rfl⟩ | ⟨rfl, rfl⟩ | ⟨rfl, rfl⟩
        · have hM : M = row32 l := by
            have h := HMid.out.told
            have h1 := HNI0.out.1
            have h2 := HL.out
            have h3 : (row32 l).length = 1 + (enc5 l).length := by simp [row32]; omega
            rwa [List.take_of_length_le (by omega), List.take_of_length_le (by omega)] at h
          have HF : Hid (ByRow wr g (row32 l)) := by show ByRow _ _ _; rw [← hM]; exact HA0.out
          go_wp2
          (try simp only [Exit.inBlock, Exit.then])
          refine bodyPost_ret (results_none rfl _ _ _) rfl ?_
          exact ⟨rfl, HF.out, HO0.out⟩
        · obtain rfl := hAd (by omega)
          obtain ⟨b, o, rfl, hbB, _⟩ := HRs.out.lit (show 0 < 1 by omega)
          have hbw : b < w.heap.size := Nat.lt_of_lt_of_le hbB hB
          have hbg : b ≠ g := HAs.out _ rfl
          obtain ⟨y0, hd⟩ : ∃ y0, l.drop (5 * i) = [y0] := by
            match hx : l.drop (5 * i), hdl with
            | [a0], _ => exact ⟨a0, rfl⟩
          have HS0 : Hid (Src w b o [y0]) := by show Src _ _ _ _; rw [← hd]; exact src_of HRs.out
          have HSr := Lib.hid (HS0.out.past HO0.out hbw hbg)
          have HD := Lib.hid hd
          have HNI : Hid (8 * i + 2 = (enc5 l).length) := by show _ = _; have := HNI0.out.1; omega
          clear hd hdl hAd
          obtain ⟨z0, hz⟩ : ∃ z, y0.toNat = z := ⟨_, rfl⟩
          have h0 : z0 < 256 := by rw [← hz]; exact UInt8.toNat_lt _
          have HZ0 := Lib.hid hz
          clear hz
          have hix : 1 + 8 * i + 1 < (M).length := by (try simp only [List.length_set]); have := HL.out; have := HNI.out; omega
          obtain ⟨d1, d2⟩ := HA0.out.at_ (1 + 8 * i + 1) _ (List.getElem?_eq_getElem hix)
          generalize (M)[1 + 8 * i + 1]'hix = old at d1
          have r0 : wr.cell? ⟨b, o, none⟩ = some (.int .u8 (z0 : Nat)) := by have h := HSr.out 0 _ rfl; rw [HZ0.out] at h; exact h
          have s0 : wr.cell? ⟨p, 0, none⟩ = some (.string abc) := HE.out.str HO0.out hp
          obtain ⟨k, hk⟩ : ∃ k, z0 % 8 * 4 = k := ⟨_, rfl⟩
          have hk32 : k < 32 := by omega
          have hk32' : k < abc.size := hk32
          have e0 : bits .or .u8 0 (k : Int) = (k : Int) := dg0 (by omega) rfl
          have e1 : (z0 : Int) * 4 % 32 = (k : Int) := by omega
          obtain ⟨x1, hx, hxl⟩ := abc_get k hk32'
          have HX1 : Hid (letter (z0 % 8 * 4) = x1) := by show _ = _; rw [hk]; exact hxl
          have g4 : (k : Int) < 32 := by omega
          clear hk hxl hix
          go_wp2_with fail
          apply wp_hold
          · intro hX
            go_region
            exact hX.out
          have HA1 := Lib.hid ((HA0.out.set (1 + 8 * i + 1) x1 (by (try simp only [List.length_set]); have := HL.out; have := HNI.out; omega)).drew)
          have HO1 := Lib.hid (only_drew (only_setb HO0.out (1 + 8 * i + 1) (.int .u8 (x1.toNat : Int))))
          generalize (wr.setCell ⟨g, 1 + 8 * i + 1, none⟩ (.int .u8 (x1.toNat : Int))).drew = wz1 at HA1 HO1 ⊢
          have HS1 := Lib.hid (HS0.out.past HO1.out hbw hbg)
          clear d1 d2 s0 HA0 HO0 r0 e0 e1
          have hix : 1 + 8 * i < ((M).set (1 + 8 * i + 1) x1).length := by (try simp only [List.length_set]); have := HL.out; have := HNI.out; omega
          obtain ⟨d1, d2⟩ := HA1.out.at_ (1 + 8 * i) _ (List.getElem?_eq_getElem hix)
          generalize ((M).set (1 + 8 * i + 1) x1)[1 + 8 * i]'hix = old at d1
          have r0 : wz1.cell? ⟨b, o, none⟩ = some (.int .u8 (z0 : Nat)) := by have h := HS1.out 0 _ rfl; rw [HZ0.out] at h; exact h
          have s0 : wz1.cell? ⟨p, 0, none⟩ = some (.string abc) := HE.out.str HO1.out hp
          obtain ⟨k, hk⟩ : ∃ k, z0 / 8 = k := ⟨_, rfl⟩
          have hk32 : k < 32 := by omega
          have hk32' : k < abc.size := hk32
          have e0 : (z0 : Int) / 8 = (k : Int) := by omega
          obtain ⟨x0, hx, hxl⟩ := abc_get k hk32'
          have HX0 : Hid (letter (z0 / 8) = x0) := by show _ = _; rw [hk]; exact hxl
          have g4 : (k : Int) < 32 := by omega
          clear hk hxl hix
          go_wp2_with fail
          apply wp_hold
          · intro hX
            go_region
            exact hX.out
          have HA2 := Lib.hid ((HA1.out.set (1 + 8 * i) x0 (by (try simp only [List.length_set]); have := HL.out; have := HNI.out; omega)).drew)
          have HO2 := Lib.hid (only_drew (only_setb HO1.out (1 + 8 * i) (.int .u8 (x0.toNat : Int))))
          generalize (wz1.setCell ⟨g, 1 + 8 * i, none⟩ (.int .u8 (x0.toNat : Int))).drew = wz2 at HA2 HO2 ⊢
          have HS2 := Lib.hid (HS0.out.past HO2.out hbw hbg)
          clear d1 d2 s0 HA1 HO1 r0 e0 HS1
          have s1 : wz2.cell? ⟨p, 257, none⟩ = some (.int .i32 (-1)) := HE.out.pad HO2.out hp
          have HF : Hid (ByRow wz2 g (row32 l)) := by
            show ByRow _ _ _
            have hR := row32_drop l i HI5.out
            rw [HD.out, enc5] at hR
            simp only [List.map_cons, List.map_nil, HZ0.out, HX0.out, HX1.out] at hR
            rw [← tail_set2 M (row32 l) (1 + 8 * i) _ _ (by have := HL.out; have := HNI.out; omega) HMid.out.told hR]
            exact HA2.out
          go_wp2
          refine bodyPost_end (results_none rfl _ _ _) rfl ?_
          exact ⟨rfl, HF.out, HO2.out⟩
        · obtain rfl := hAd (by omega)
          obtain ⟨b, o, rfl, hbB, _⟩ := HRs.out.lit (show 0 < 2 by omega)
          have hbw : b < w.heap.size := Nat.lt_of_lt_of_le hbB hB
          have hbg : b ≠ g := HAs.out _ rfl
          obtain ⟨y0, y1, hd⟩ : ∃ y0 y1, l.drop (5 * i) = [y0, y1] := by
            match hx : l.drop (5 * i), hdl with
            | [a0, a1], _ => exact ⟨a0, a1, rfl⟩
          have HS0 : Hid (Src w b o [y0, y1]) := by show Src _ _ _ _; rw [← hd]; exact src_of HRs.out
          have HSr := Lib.hid (HS0.out.past HO0.out hbw hbg)
          have HD := Lib.hid hd
          have HNI : Hid (8 * i + 4 = (enc5 l).length) := by show _ = _; have := HNI0.out.1; omega
          clear hd hdl hAd
          obtain ⟨z0, hz⟩ : ∃ z, y0.toNat = z := ⟨_, rfl⟩
          have h0 : z0 < 256 := by rw [← hz]; exact UInt8.toNat_lt _
          have HZ0 := Lib.hid hz
          clear hz
          obtain ⟨z1, hz⟩ : ∃ z, y1.toNat = z := ⟨_, rfl⟩
          have h1 : z1 < 256 := by rw [← hz]; exact UInt8.toNat_lt _
          have HZ1 := Lib.hid hz
          clear hz
          have hix : 1 + 8 * i + 3 < (M).length := by (try simp only [List.length_set]); have := HL.out; have := HNI.out; omega
          obtain ⟨d1, d2⟩ := HA0.out.at_ (1 + 8 * i + 3) _ (List.getElem?_eq_getElem hix)
          generalize (M)[1 + 8 * i + 3]'hix = old at d1
          have r1 : wr.cell? ⟨b, o + 1, none⟩ = some (.int .u8 (z1 : Nat)) := by have h := HSr.out 1 _ rfl; rw [HZ1.out] at h; exact h
          have s0 : wr.cell? ⟨p, 0, none⟩ = some (.string abc) := HE.out.str HO0.out hp
          obtain ⟨k, hk⟩ : ∃ k, z1 % 2 * 16 = k := ⟨_, rfl⟩
          have hk32 : k < 32 := by omega
          have hk32' : k < abc.size := hk32
          have e0 : bits .or .u8 0 (k : Int) = (k : Int) := dg0 (by omega) rfl
          have e1 : (z1 : Int) * 16 % 32 = (k : Int) := by omega
          obtain ⟨x3, hx, hxl⟩ := abc_get k hk32'
          have HX3 : Hid (letter (z1 % 2 * 16) = x3) := by show _ = _; rw [hk]; exact hxl
          have g4 : (k : Int) < 32 := by omega
          clear hk hxl hix
          go_wp2_with fail
          apply wp_hold
          · intro hX
            go_region
            exact hX.out
          have HA1 := Lib.hid ((HA0.out.set (1 + 8 * i + 3) x3 (by (try simp only [List.length_set]); have := HL.out; have := HNI.out; omega)).drew)
          have HO1 := Lib.hid (only_drew (only_setb HO0.out (1 + 8 * i + 3) (.int .u8 (x3.toNat : Int))))
          generalize (wr.setCell ⟨g, 1 + 8 * i + 3, none⟩ (.int .u8 (x3.toNat : Int))).drew = wz1 at HA1 HO1 ⊢
          have HS1 := Lib.hid (HS0.out.past HO1.out hbw hbg)
          clear d1 d2 s0 HA0 HO0 r1 e0 e1
          have hix : 1 + 8 * i + 2 < ((M).set (1 + 8 * i + 3) x3).length := by (try simp only [List.length_set]); have := HL.out; have := HNI.out; omega
          obtain ⟨d1, d2⟩ := HA1.out.at_ (1 + 8 * i + 2) _ (List.getElem?_eq_getElem hix)
          generalize ((M).set (1 + 8 * i + 3) x3)[1 + 8 * i + 2]'hix = old at d1
          have r1 : wz1.cell? ⟨b, o + 1, none⟩ = some (.int .u8 (z1 : Nat)) := by have h := HS1.out 1 _ rfl; rw [HZ1.out] at h; exact h
          have s0 : wz1.cell? ⟨p, 0, none⟩ = some (.string abc) := HE.out.str HO1.out hp
          obtain ⟨k, hk⟩ : ∃ k, z1 / 2 % 32 = k := ⟨_, rfl⟩
          have hk32 : k < 32 := by omega
          have hk32' : k < abc.size := hk32
          have e0 : (z1 : Int) / 2 % 32 = (k : Int) := by omega
          obtain ⟨x2, hx, hxl⟩ := abc_get k hk32'
          have HX2 : Hid (letter (z1 / 2 % 32) = x2) := by show _ = _; rw [hk]; exact hxl
          have g4 : (k : Int) < 32 := by omega
          clear hk hxl hix
          go_wp2_with fail
          apply wp_hold
          · intro hX
            go_region
            exact hX.out
          have HA2 := Lib.hid ((HA1.out.set (1 + 8 * i + 2) x2 (by (try simp only [List.length_set]); have := HL.out; have := HNI.out; omega)).drew)
          have HO2 := Lib.hid (only_drew (only_setb HO1.out (1 + 8 * i + 2) (.int .u8 (x2.toNat : Int))))
          generalize (wz1.setCell ⟨g, 1 + 8 * i + 2, none⟩ (.int .u8 (x2.toNat : Int))).drew = wz2 at HA2 HO2 ⊢
          have HS2 := Lib.hid (HS0.out.past HO2.out hbw hbg)
          clear d1 d2 s0 HA1 HO1 r1 e0 HS1
          have hix : 1 + 8 * i + 1 < (((M).set (1 + 8 * i + 3) x3).set (1 + 8 * i + 2) x2).length := by (try simp only [List.length_set]); have := HL.out; have := HNI.out; omega
          obtain ⟨d1, d2⟩ := HA2.out.at_ (1 + 8 * i + 1) _ (List.getElem?_eq_getElem hix)
          generalize (((M).set (1 + 8 * i + 3) x3).set (1 + 8 * i + 2) x2)[1 + 8 * i + 1]'hix = old at d1
          have r0 : wz2.cell? ⟨b, o, none⟩ = some (.int .u8 (z0 : Nat)) := by have h := HS2.out 0 _ rfl; rw [HZ0.out] at h; exact h
          have r1 : wz2.cell? ⟨b, o + 1, none⟩ = some (.int .u8 (z1 : Nat)) := by have h := HS2.out 1 _ rfl; rw [HZ1.out] at h; exact h
          have s0 : wz2.cell? ⟨p, 0, none⟩ = some (.string abc) := HE.out.str HO2.out hp
          obtain ⟨k, hk⟩ : ∃ k, z0 % 8 * 4 + z1 / 64 = k := ⟨_, rfl⟩
          have hk32 : k < 32 := by omega
          have hk32' : k < abc.size := hk32
          have e0 : bits .or .u8 ((z1 : Int) / 64 % 32) ((z0 : Int) * 4 % 32) = (k : Int) := dg1t h1 hk
          have e1 : bits .or .u8 ((z1 : Int) / 64) ((z0 : Int) * 4 % 32) = (k : Int) := dg1 h1 hk
          obtain ⟨x1, hx, hxl⟩ := abc_get k hk32'
          have HX1 : Hid (letter (z0 % 8 * 4 + z1 / 64) = x1) := by show _ = _; rw [hk]; exact hxl
          have g4 : (k : Int) < 32 := by omega
          clear hk hxl hix
          go_wp2_with fail
          apply wp_hold
          · intro hX
            go_region
            exact hX.out
          have HA3 := Lib.hid ((HA2.out.set (1 + 8 * i + 1) x1 (by (try simp only [List.length_set]); have := HL.out; have := HNI.out; omega)).drew)
          have HO3 := Lib.hid (only_drew (only_setb HO2.out (1 + 8 * i + 1) (.int .u8 (x1.toNat : Int))))
          generalize (wz2.setCell ⟨g, 1 + 8 * i + 1, none⟩ (.int .u8 (x1.toNat : Int))).drew = wz3 at HA3 HO3 ⊢
          have HS3 := Lib.hid (HS0.out.past HO3.out hbw hbg)
          clear d1 d2 s0 HA2 HO2 r0 r1 e0 e1 HS2
          have hix : 1 + 8 * i < ((((M).set (1 + 8 * i + 3) x3).set (1 + 8 * i + 2) x2).set (1 + 8 * i + 1) x1).length := by (try simp only [List.length_set]); have := HL.out; have := HNI.out; omega
          obtain ⟨d1, d2⟩ := HA3.out.at_ (1 + 8 * i) _ (List.getElem?_eq_getElem hix)
          generalize ((((M).set (1 + 8 * i + 3) x3).set (1 + 8 * i + 2) x2).set (1 + 8 * i + 1) x1)[1 + 8 * i]'hix = old at d1
          have r0 : wz3.cell? ⟨b, o, none⟩ = some (.int .u8 (z0 : Nat)) := by have h := HS3.out 0 _ rfl; rw [HZ0.out] at h; exact h
          have s0 : wz3.cell? ⟨p, 0, none⟩ = some (.string abc) := HE.out.str HO3.out hp
          obtain ⟨k, hk⟩ : ∃ k, z0 / 8 = k := ⟨_, rfl⟩
          have hk32 : k < 32 := by omega
          have hk32' : k < abc.size := hk32
          have e0 : (z0 : Int) / 8 = (k : Int) := by omega
          obtain ⟨x0, hx, hxl⟩ := abc_get k hk32'
          have HX0 : Hid (letter (z0 / 8) = x0) := by show _ = _; rw [hk]; exact hxl
          have g4 : (k : Int) < 32 := by omega
          clear hk hxl hix
          go_wp2_with fail
          apply wp_hold
          · intro hX
            go_region
            exact hX.out
          have HA4 := Lib.hid ((HA3.out.set (1 + 8 * i) x0 (by (try simp only [List.length_set]); have := HL.out; have := HNI.out; omega)).drew)
          have HO4 := Lib.hid (only_drew (only_setb HO3.out (1 + 8 * i) (.int .u8 (x0.toNat : Int))))
          generalize (wz3.setCell ⟨g, 1 + 8 * i, none⟩ (.int .u8 (x0.toNat : Int))).drew = wz4 at HA4 HO4 ⊢
          have HS4 := Lib.hid (HS0.out.past HO4.out hbw hbg)
          clear d1 d2 s0 HA3 HO3 r0 e0 HS3
          have s1 : wz4.cell? ⟨p, 257, none⟩ = some (.int .i32 (-1)) := HE.out.pad HO4.out hp
          have HF : Hid (ByRow wz4 g (row32 l)) := by
            show ByRow _ _ _
            have hR := row32_drop l i HI5.out
            rw [HD.out, enc5] at hR
            simp only [List.map_cons, List.map_nil, HZ0.out, HZ1.out, HX0.out, HX1.out, HX2.out, HX3.out] at hR
            rw [← tail_set4 M (row32 l) (1 + 8 * i) _ _ _ _ (by have := HL.out; have := HNI.out; omega) HMid.out.told hR]
            exact HA4.out
          go_wp2
          refine bodyPost_end (results_none rfl _ _ _) rfl ?_
          exact ⟨rfl, HF.out, HO4.out⟩
        · obtain rfl := hAd (by omega)
          obtain ⟨b, o, rfl, hbB, _⟩ := HRs.out.lit (show 0 < 3 by omega)
          have hbw : b < w.heap.size := Nat.lt_of_lt_of_le hbB hB
          have hbg : b ≠ g := HAs.out _ rfl
          obtain ⟨y0, y1, y2, hd⟩ : ∃ y0 y1 y2, l.drop (5 * i) = [y0, y1, y2] := by
            match hx : l.drop (5 * i), hdl with
            | [a0, a1, a2], _ => exact ⟨a0, a1, a2, rfl⟩
          have HS0 : Hid (Src w b o [y0, y1, y2]) := by show Src _ _ _ _; rw [← hd]; exact src_of HRs.out
          have HSr := Lib.hid (HS0.out.past HO0.out hbw hbg)
          have HD := Lib.hid hd
          have HNI : Hid (8 * i + 5 = (enc5 l).length) := by show _ = _; have := HNI0.out.1; omega
          clear hd hdl hAd
          obtain ⟨z0, hz⟩ : ∃ z, y0.toNat = z := ⟨_, rfl⟩
          have h0 : z0 < 256 := by rw [← hz]; exact UInt8.toNat_lt _
          have HZ0 := Lib.hid hz
          clear hz
          obtain ⟨z1, hz⟩ : ∃ z, y1.toNat = z := ⟨_, rfl⟩
          have h1 : z1 < 256 := by rw [← hz]; exact UInt8.toNat_lt _
          have HZ1 := Lib.hid hz
          clear hz
          obtain ⟨z2, hz⟩ : ∃ z, y2.toNat = z := ⟨_, rfl⟩
          have h2 : z2 < 256 := by rw [← hz]; exact UInt8.toNat_lt _
          have HZ2 := Lib.hid hz
          clear hz
          have hix : 1 + 8 * i + 4 < (M).length := by (try simp only [List.length_set]); have := HL.out; have := HNI.out; omega
          obtain ⟨d1, d2⟩ := HA0.out.at_ (1 + 8 * i + 4) _ (List.getElem?_eq_getElem hix)
          generalize (M)[1 + 8 * i + 4]'hix = old at d1
          have r2 : wr.cell? ⟨b, o + 2, none⟩ = some (.int .u8 (z2 : Nat)) := by have h := HSr.out 2 _ rfl; rw [HZ2.out] at h; exact h
          have s0 : wr.cell? ⟨p, 0, none⟩ = some (.string abc) := HE.out.str HO0.out hp
          obtain ⟨k, hk⟩ : ∃ k, z2 % 16 * 2 = k := ⟨_, rfl⟩
          have hk32 : k < 32 := by omega
          have hk32' : k < abc.size := hk32
          have e0 : bits .or .u8 0 (k : Int) = (k : Int) := dg0 (by omega) rfl
          have e1 : (z2 : Int) * 2 % 32 = (k : Int) := by omega
          obtain ⟨x4, hx, hxl⟩ := abc_get k hk32'
          have HX4 : Hid (letter (z2 % 16 * 2) = x4) := by show _ = _; rw [hk]; exact hxl
          have g4 : (k : Int) < 32 := by omega
          clear hk hxl hix
          go_wp2_with fail
          apply wp_hold
          · intro hX
            go_region
            exact hX.out
          have HA1 := Lib.hid ((HA0.out.set (1 + 8 * i + 4) x4 (by (try simp only [List.length_set]); have := HL.out; have := HNI.out; omega)).drew)
          have HO1 := Lib.hid (only_drew (only_setb HO0.out (1 + 8 * i + 4) (.int .u8 (x4.toNat : Int))))
          generalize (wr.setCell ⟨g, 1 + 8 * i + 4, none⟩ (.int .u8 (x4.toNat : Int))).drew = wz1 at HA1 HO1 ⊢
          have HS1 := Lib.hid (HS0.out.past HO1.out hbw hbg)
          clear d1 d2 s0 HA0 HO0 r2 e0 e1
          have hix : 1 + 8 * i + 3 < ((M).set (1 + 8 * i + 4) x4).length := by (try simp only [List.length_set]); have := HL.out; have := HNI.out; omega
          obtain ⟨d1, d2⟩ := HA1.out.at_ (1 + 8 * i + 3) _ (List.getElem?_eq_getElem hix)
          generalize ((M).set (1 + 8 * i + 4) x4)[1 + 8 * i + 3]'hix = old at d1
          have r1 : wz1.cell? ⟨b, o + 1, none⟩ = some (.int .u8 (z1 : Nat)) := by have h := HS1.out 1 _ rfl; rw [HZ1.out] at h; exact h
          have r2 : wz1.cell? ⟨b, o + 2, none⟩ = some (.int .u8 (z2 : Nat)) := by have h := HS1.out 2 _ rfl; rw [HZ2.out] at h; exact h
          have s0 : wz1.cell? ⟨p, 0, none⟩ = some (.string abc) := HE.out.str HO1.out hp
          obtain ⟨k, hk⟩ : ∃ k, z1 % 2 * 16 + z2 / 16 = k := ⟨_, rfl⟩
          have hk32 : k < 32 := by omega
          have hk32' : k < abc.size := hk32
          have e0 : bits .or .u8 ((z2 : Int) / 16 % 32) ((z1 : Int) * 16 % 32) = (k : Int) := dg3t h2 hk
          have e1 : bits .or .u8 ((z2 : Int) / 16) ((z1 : Int) * 16 % 32) = (k : Int) := dg3 h2 hk
          obtain ⟨x3, hx, hxl⟩ := abc_get k hk32'
          have HX3 : Hid (letter (z1 % 2 * 16 + z2 / 16) = x3) := by show _ = _; rw [hk]; exact hxl
          have g4 : (k : Int) < 32 := by omega
          clear hk hxl hix
          go_wp2_with fail
          apply wp_hold
          · intro hX
            go_region
            exact hX.out
          have HA2 := Lib.hid ((HA1.out.set (1 + 8 * i + 3) x3 (by (try simp only [List.length_set]); have := HL.out; have := HNI.out; omega)).drew)
          have HO2 := Lib.hid (only_drew (only_setb HO1.out (1 + 8 * i + 3) (.int .u8 (x3.toNat : Int))))
          generalize (wz1.setCell ⟨g, 1 + 8 * i + 3, none⟩ (.int .u8 (x3.toNat : Int))).drew = wz2 at HA2 HO2 ⊢
          have HS2 := Lib.hid (HS0.out.past HO2.out hbw hbg)
          clear d1 d2 s0 HA1 HO1 r1 r2 e0 e1 HS1
          have hix : 1 + 8 * i + 2 < (((M).set (1 + 8 * i + 4) x4).set (1 + 8 * i + 3) x3).length := by (try simp only [List.length_set]); have := HL.out; have := HNI.out; omega
          obtain ⟨d1, d2⟩ := HA2.out.at_ (1 + 8 * i + 2) _ (List.getElem?_eq_getElem hix)
          generalize (((M).set (1 + 8 * i + 4) x4).set (1 + 8 * i + 3) x3)[1 + 8 * i + 2]'hix = old at d1
          have r1 : wz2.cell? ⟨b, o + 1, none⟩ = some (.int .u8 (z1 : Nat)) := by have h := HS2.out 1 _ rfl; rw [HZ1.out] at h; exact h
          have s0 : wz2.cell? ⟨p, 0, none⟩ = some (.string abc) := HE.out.str HO2.out hp
          obtain ⟨k, hk⟩ : ∃ k, z1 / 2 % 32 = k := ⟨_, rfl⟩
          have hk32 : k < 32 := by omega
          have hk32' : k < abc.size := hk32
          have e0 : (z1 : Int) / 2 % 32 = (k : Int) := by omega
          obtain ⟨x2, hx, hxl⟩ := abc_get k hk32'
          have HX2 : Hid (letter (z1 / 2 % 32) = x2) := by show _ = _; rw [hk]; exact hxl
          have g4 : (k : Int) < 32 := by omega
          clear hk hxl hix
          go_wp2_with fail
          apply wp_hold
          · intro hX
            go_region
            exact hX.out
          have HA3 := Lib.hid ((HA2.out.set (1 + 8 * i + 2) x2 (by (try simp only [List.length_set]); have := HL.out; have := HNI.out; omega)).drew)
          have HO3 := Lib.hid (only_drew (only_setb HO2.out (1 + 8 * i + 2) (.int .u8 (x2.toNat : Int))))
          generalize (wz2.setCell ⟨g, 1 + 8 * i + 2, none⟩ (.int .u8 (x2.toNat : Int))).drew = wz3 at HA3 HO3 ⊢
          have HS3 := Lib.hid (HS0.out.past HO3.out hbw hbg)
          clear d1 d2 s0 HA2 HO2 r1 e0 HS2
          have hix : 1 + 8 * i + 1 < ((((M).set (1 + 8 * i + 4) x4).set (1 + 8 * i + 3) x3).set (1 + 8 * i + 2) x2).length := by (try simp only [List.length_set]); have := HL.out; have := HNI.out; omega
          obtain ⟨d1, d2⟩ := HA3.out.at_ (1 + 8 * i + 1) _ (List.getElem?_eq_getElem hix)
          generalize ((((M).set (1 + 8 * i + 4) x4).set (1 + 8 * i + 3) x3).set (1 + 8 * i + 2) x2)[1 + 8 * i + 1]'hix = old at d1
          have r0 : wz3.cell? ⟨b, o, none⟩ = some (.int .u8 (z0 : Nat)) := by have h := HS3.out 0 _ rfl; rw [HZ0.out] at h; exact h
          have r1 : wz3.cell? ⟨b, o + 1, none⟩ = some (.int .u8 (z1 : Nat)) := by have h := HS3.out 1 _ rfl; rw [HZ1.out] at h; exact h
          have s0 : wz3.cell? ⟨p, 0, none⟩ = some (.string abc) := HE.out.str HO3.out hp
          obtain ⟨k, hk⟩ : ∃ k, z0 % 8 * 4 + z1 / 64 = k := ⟨_, rfl⟩
          have hk32 : k < 32 := by omega
          have hk32' : k < abc.size := hk32
          have e0 : bits .or .u8 ((z1 : Int) / 64 % 32) ((z0 : Int) * 4 % 32) = (k : Int) := dg1t h1 hk
          have e1 : bits .or .u8 ((z1 : Int) / 64) ((z0 : Int) * 4 % 32) = (k : Int) := dg1 h1 hk
          obtain ⟨x1, hx, hxl⟩ := abc_get k hk32'
          have HX1 : Hid (letter (z0 % 8 * 4 + z1 / 64) = x1) := by show _ = _; rw [hk]; exact hxl
          have g4 : (k : Int) < 32 := by omega
          clear hk hxl hix
          go_wp2_with fail
          apply wp_hold
          · intro hX
            go_region
            exact hX.out
          have HA4 := Lib.hid ((HA3.out.set (1 + 8 * i + 1) x1 (by (try simp only [List.length_set]); have := HL.out; have := HNI.out; omega)).drew)
          have HO4 := Lib.hid (only_drew (only_setb HO3.out (1 + 8 * i + 1) (.int .u8 (x1.toNat : Int))))
          generalize (wz3.setCell ⟨g, 1 + 8 * i + 1, none⟩ (.int .u8 (x1.toNat : Int))).drew = wz4 at HA4 HO4 ⊢
          have HS4 := Lib.hid (HS0.out.past HO4.out hbw hbg)
          clear d1 d2 s0 HA3 HO3 r0 r1 e0 e1 HS3
          have hix : 1 + 8 * i < (((((M).set (1 + 8 * i + 4) x4).set (1 + 8 * i + 3) x3).set (1 + 8 * i + 2) x2).set (1 + 8 * i + 1) x1).length := by (try simp only [List.length_set]); have := HL.out; have := HNI.out; omega
          obtain ⟨d1, d2⟩ := HA4.out.at_ (1 + 8 * i) _ (List.getElem?_eq_getElem hix)
          generalize (((((M).set (1 + 8 * i + 4) x4).set (1 + 8 * i + 3) x3).set (1 + 8 * i + 2) x2).set (1 + 8 * i + 1) x1)[1 + 8 * i]'hix = old at d1
          have r0 : wz4.cell? ⟨b, o, none⟩ = some (.int .u8 (z0 : Nat)) := by have h := HS4.out 0 _ rfl; rw [HZ0.out] at h; exact h
          have s0 : wz4.cell? ⟨p, 0, none⟩ = some (.string abc) := HE.out.str HO4.out hp
          obtain ⟨k, hk⟩ : ∃ k, z0 / 8 = k := ⟨_, rfl⟩
          have hk32 : k < 32 := by omega
          have hk32' : k < abc.size := hk32
          have e0 : (z0 : Int) / 8 = (k : Int) := by omega
          obtain ⟨x0, hx, hxl⟩ := abc_get k hk32'
          have HX0 : Hid (letter (z0 / 8) = x0) := by show _ = _; rw [hk]; exact hxl
          have g4 : (k : Int) < 32 := by omega
          clear hk hxl hix
          go_wp2_with fail
          apply wp_hold
          · intro hX
            go_region
            exact hX.out
          have HA5 := Lib.hid ((HA4.out.set (1 + 8 * i) x0 (by (try simp only [List.length_set]); have := HL.out; have := HNI.out; omega)).drew)
          have HO5 := Lib.hid (only_drew (only_setb HO4.out (1 + 8 * i) (.int .u8 (x0.toNat : Int))))
          generalize (wz4.setCell ⟨g, 1 + 8 * i, none⟩ (.int .u8 (x0.toNat : Int))).drew = wz5 at HA5 HO5 ⊢
          have HS5 := Lib.hid (HS0.out.past HO5.out hbw hbg)
          clear d1 d2 s0 HA4 HO4 r0 e0 HS4
          have s1 : wz5.cell? ⟨p, 257, none⟩ = some (.int .i32 (-1)) := HE.out.pad HO5.out hp
          have HF : Hid (ByRow wz5 g (row32 l)) := by
            show ByRow _ _ _
            have hR := row32_drop l i HI5.out
            rw [HD.out, enc5] at hR
            simp only [List.map_cons, List.map_nil, HZ0.out, HZ1.out, HZ2.out, HX0.out, HX1.out, HX2.out, HX3.out, HX4.out] at hR
            rw [← tail_set5 M (row32 l) (1 + 8 * i) _ _ _ _ _ (by have := HL.out; have := HNI.out; omega) HMid.out.told hR]
            exact HA5.out
          go_wp2
          refine bodyPost_end (results_none rfl _ _ _) rfl ?_
          exact ⟨rfl, HF.out, HO5.out⟩
        · obtain rfl := hAd (by omega)
          obtain ⟨b, o, rfl, hbB, _⟩ := HRs.out.lit (show 0 < 4 by omega)
          have hbw : b < w.heap.size := Nat.lt_of_lt_of_le hbB hB
          have hbg : b ≠ g := HAs.out _ rfl
          obtain ⟨y0, y1, y2, y3, hd⟩ : ∃ y0 y1 y2 y3, l.drop (5 * i) = [y0, y1, y2, y3] := by
            match hx : l.drop (5 * i), hdl with
            | [a0, a1, a2, a3], _ => exact ⟨a0, a1, a2, a3, rfl⟩
          have HS0 : Hid (Src w b o [y0, y1, y2, y3]) := by show Src _ _ _ _; rw [← hd]; exact src_of HRs.out
          have HSr := Lib.hid (HS0.out.past HO0.out hbw hbg)
          have HD := Lib.hid hd
          have HNI : Hid (8 * i + 7 = (enc5 l).length) := by show _ = _; have := HNI0.out.1; omega
          clear hd hdl hAd
          obtain ⟨z0, hz⟩ : ∃ z, y0.toNat = z := ⟨_, rfl⟩
          have h0 : z0 < 256 := by rw [← hz]; exact UInt8.toNat_lt _
          have HZ0 := Lib.hid hz
          clear hz
          obtain ⟨z1, hz⟩ : ∃ z, y1.toNat = z := ⟨_, rfl⟩
          have h1 : z1 < 256 := by rw [← hz]; exact UInt8.toNat_lt _
          have HZ1 := Lib.hid hz
          clear hz
          obtain ⟨z2, hz⟩ : ∃ z, y2.toNat = z := ⟨_, rfl⟩
          have h2 : z2 < 256 := by rw [← hz]; exact UInt8.toNat_lt _
          have HZ2 := Lib.hid hz
          clear hz
          obtain ⟨z3, hz⟩ : ∃ z, y3.toNat = z := ⟨_, rfl⟩
          have h3 : z3 < 256 := by rw [← hz]; exact UInt8.toNat_lt _
          have HZ3 := Lib.hid hz
          clear hz
          have hix : 1 + 8 * i + 6 < (M).length := by (try simp only [List.length_set]); have := HL.out; have := HNI.out; omega
          obtain ⟨d1, d2⟩ := HA0.out.at_ (1 + 8 * i + 6) _ (List.getElem?_eq_getElem hix)
          generalize (M)[1 + 8 * i + 6]'hix = old at d1
          have r3 : wr.cell? ⟨b, o + 3, none⟩ = some (.int .u8 (z3 : Nat)) := by have h := HSr.out 3 _ rfl; rw [HZ3.out] at h; exact h
          have s0 : wr.cell? ⟨p, 0, none⟩ = some (.string abc) := HE.out.str HO0.out hp
          obtain ⟨k, hk⟩ : ∃ k, z3 % 4 * 8 = k := ⟨_, rfl⟩
          have hk32 : k < 32 := by omega
          have hk32' : k < abc.size := hk32
          have e0 : (z3 : Int) * 8 % 32 = (k : Int) := by omega
          obtain ⟨x6, hx, hxl⟩ := abc_get k hk32'
          have HX6 : Hid (letter (z3 % 4 * 8) = x6) := by show _ = _; rw [hk]; exact hxl
          have g4 : (k : Int) < 32 := by omega
          clear hk hxl hix
          go_wp2_with fail
          apply wp_hold
          · intro hX
            go_region
            exact hX.out
          have HA1 := Lib.hid ((HA0.out.set (1 + 8 * i + 6) x6 (by (try simp only [List.length_set]); have := HL.out; have := HNI.out; omega)).drew)
          have HO1 := Lib.hid (only_drew (only_setb HO0.out (1 + 8 * i + 6) (.int .u8 (x6.toNat : Int))))
          generalize (wr.setCell ⟨g, 1 + 8 * i + 6, none⟩ (.int .u8 (x6.toNat : Int))).drew = wz1 at HA1 HO1 ⊢
          have HS1 := Lib.hid (HS0.out.past HO1.out hbw hbg)
          clear d1 d2 s0 HA0 HO0 r3 e0
          have hix : 1 + 8 * i + 5 < ((M).set (1 + 8 * i + 6) x6).length := by (try simp only [List.length_set]); have := HL.out; have := HNI.out; omega
          obtain ⟨d1, d2⟩ := HA1.out.at_ (1 + 8 * i + 5) _ (List.getElem?_eq_getElem hix)
          generalize ((M).set (1 + 8 * i + 6) x6)[1 + 8 * i + 5]'hix = old at d1
          have r3 : wz1.cell? ⟨b, o + 3, none⟩ = some (.int .u8 (z3 : Nat)) := by have h := HS1.out 3 _ rfl; rw [HZ3.out] at h; exact h
          have s0 : wz1.cell? ⟨p, 0, none⟩ = some (.string abc) := HE.out.str HO1.out hp
          obtain ⟨k, hk⟩ : ∃ k, z3 / 4 % 32 = k := ⟨_, rfl⟩
          have hk32 : k < 32 := by omega
          have hk32' : k < abc.size := hk32
          have e0 : (z3 : Int) / 4 % 32 = (k : Int) := by omega
          obtain ⟨x5, hx, hxl⟩ := abc_get k hk32'
          have HX5 : Hid (letter (z3 / 4 % 32) = x5) := by show _ = _; rw [hk]; exact hxl
          have g4 : (k : Int) < 32 := by omega
          clear hk hxl hix
          go_wp2_with fail
          apply wp_hold
          · intro hX
            go_region
            exact hX.out
          have HA2 := Lib.hid ((HA1.out.set (1 + 8 * i + 5) x5 (by (try simp only [List.length_set]); have := HL.out; have := HNI.out; omega)).drew)
          have HO2 := Lib.hid (only_drew (only_setb HO1.out (1 + 8 * i + 5) (.int .u8 (x5.toNat : Int))))
          generalize (wz1.setCell ⟨g, 1 + 8 * i + 5, none⟩ (.int .u8 (x5.toNat : Int))).drew = wz2 at HA2 HO2 ⊢
          have HS2 := Lib.hid (HS0.out.past HO2.out hbw hbg)
          clear d1 d2 s0 HA1 HO1 r3 e0 HS1
          have hix : 1 + 8 * i + 4 < (((M).set (1 + 8 * i + 6) x6).set (1 + 8 * i + 5) x5).length := by (try simp only [List.length_set]); have := HL.out; have := HNI.out; omega
          obtain ⟨d1, d2⟩ := HA2.out.at_ (1 + 8 * i + 4) _ (List.getElem?_eq_getElem hix)
          generalize (((M).set (1 + 8 * i + 6) x6).set (1 + 8 * i + 5) x5)[1 + 8 * i + 4]'hix = old at d1
          have r2 : wz2.cell? ⟨b, o + 2, none⟩ = some (.int .u8 (z2 : Nat)) := by have h := HS2.out 2 _ rfl; rw [HZ2.out] at h; exact h
          have r3 : wz2.cell? ⟨b, o + 3, none⟩ = some (.int .u8 (z3 : Nat)) := by have h := HS2.out 3 _ rfl; rw [HZ3.out] at h; exact h
          have s0 : wz2.cell? ⟨p, 0, none⟩ = some (.string abc) := HE.out.str HO2.out hp
          obtain ⟨k, hk⟩ : ∃ k, z2 % 16 * 2 + z3 / 128 = k := ⟨_, rfl⟩
          have hk32 : k < 32 := by omega
          have hk32' : k < abc.size := hk32
          have e0 : bits .or .u8 ((z3 : Int) / 128) ((z2 : Int) * 2 % 32) = (k : Int) := dg4 h3 hk
          obtain ⟨x4, hx, hxl⟩ := abc_get k hk32'
          have HX4 : Hid (letter (z2 % 16 * 2 + z3 / 128) = x4) := by show _ = _; rw [hk]; exact hxl
          have g4 : (k : Int) < 32 := by omega
          clear hk hxl hix
          go_wp2_with fail
          apply wp_hold
          · intro hX
            go_region
            exact hX.out
          have HA3 := Lib.hid ((HA2.out.set (1 + 8 * i + 4) x4 (by (try simp only [List.length_set]); have := HL.out; have := HNI.out; omega)).drew)
          have HO3 := Lib.hid (only_drew (only_setb HO2.out (1 + 8 * i + 4) (.int .u8 (x4.toNat : Int))))
          generalize (wz2.setCell ⟨g, 1 + 8 * i + 4, none⟩ (.int .u8 (x4.toNat : Int))).drew = wz3 at HA3 HO3 ⊢
          have HS3 := Lib.hid (HS0.out.past HO3.out hbw hbg)
          clear d1 d2 s0 HA2 HO2 r2 r3 e0 HS2
          have hix : 1 + 8 * i + 3 < ((((M).set (1 + 8 * i + 6) x6).set (1 + 8 * i + 5) x5).set (1 + 8 * i + 4) x4).length := by (try simp only [List.length_set]); have := HL.out; have := HNI.out; omega
          obtain ⟨d1, d2⟩ := HA3.out.at_ (1 + 8 * i + 3) _ (List.getElem?_eq_getElem hix)
          generalize ((((M).set (1 + 8 * i + 6) x6).set (1 + 8 * i + 5) x5).set (1 + 8 * i + 4) x4)[1 + 8 * i + 3]'hix = old at d1
          have r1 : wz3.cell? ⟨b, o + 1, none⟩ = some (.int .u8 (z1 : Nat)) := by have h := HS3.out 1 _ rfl; rw [HZ1.out] at h; exact h
          have r2 : wz3.cell? ⟨b, o + 2, none⟩ = some (.int .u8 (z2 : Nat)) := by have h := HS3.out 2 _ rfl; rw [HZ2.out] at h; exact h
          have s0 : wz3.cell? ⟨p, 0, none⟩ = some (.string abc) := HE.out.str HO3.out hp
          obtain ⟨k, hk⟩ : ∃ k, z1 % 2 * 16 + z2 / 16 = k := ⟨_, rfl⟩
          have hk32 : k < 32 := by omega
          have hk32' : k < abc.size := hk32
          have e0 : bits .or .u8 ((z2 : Int) / 16 % 32) ((z1 : Int) * 16 % 32) = (k : Int) := dg3t h2 hk
          have e1 : bits .or .u8 ((z2 : Int) / 16) ((z1 : Int) * 16 % 32) = (k : Int) := dg3 h2 hk
          obtain ⟨x3, hx, hxl⟩ := abc_get k hk32'
          have HX3 : Hid (letter (z1 % 2 * 16 + z2 / 16) = x3) := by show _ = _; rw [hk]; exact hxl
          have g4 : (k : Int) < 32 := by omega
          clear hk hxl hix
          go_wp2_with fail
          apply wp_hold
          · intro hX
            go_region
            exact hX.out
          have HA4 := Lib.hid ((HA3.out.set (1 + 8 * i + 3) x3 (by (try simp only [List.length_set]); have := HL.out; have := HNI.out; omega)).drew)
          have HO4 := Lib.hid (only_drew (only_setb HO3.out (1 + 8 * i + 3) (.int .u8 (x3.toNat : Int))))
          generalize (wz3.setCell ⟨g, 1 + 8 * i + 3, none⟩ (.int .u8 (x3.toNat : Int))).drew = wz4 at HA4 HO4 ⊢
          have HS4 := Lib.hid (HS0.out.past HO4.out hbw hbg)
          clear d1 d2 s0 HA3 HO3 r1 r2 e0 e1 HS3
          have hix : 1 + 8 * i + 2 < (((((M).set (1 + 8 * i + 6) x6).set (1 + 8 * i + 5) x5).set (1 + 8 * i + 4) x4).set (1 + 8 * i + 3) x3).length := by (try simp only [List.length_set]); have := HL.out; have := HNI.out; omega
          obtain ⟨d1, d2⟩ := HA4.out.at_ (1 + 8 * i + 2) _ (List.getElem?_eq_getElem hix)
          generalize (((((M).set (1 + 8 * i + 6) x6).set (1 + 8 * i + 5) x5).set (1 + 8 * i + 4) x4).set (1 + 8 * i + 3) x3)[1 + 8 * i + 2]'hix = old at d1
          have r1 : wz4.cell? ⟨b, o + 1, none⟩ = some (.int .u8 (z1 : Nat)) := by have h := HS4.out 1 _ rfl; rw [HZ1.out] at h; exact h
          have s0 : wz4.cell? ⟨p, 0, none⟩ = some (.string abc) := HE.out.str HO4.out hp
          obtain ⟨k, hk⟩ : ∃ k, z1 / 2 % 32 = k := ⟨_, rfl⟩
          have hk32 : k < 32 := by omega
          have hk32' : k < abc.size := hk32
          have e0 : (z1 : Int) / 2 % 32 = (k : Int) := by omega
          obtain ⟨x2, hx, hxl⟩ := abc_get k hk32'
          have HX2 : Hid (letter (z1 / 2 % 32) = x2) := by show _ = _; rw [hk]; exact hxl
          have g4 : (k : Int) < 32 := by omega
          clear hk hxl hix
          go_wp2_with fail
          apply wp_hold
          · intro hX
            go_region
            exact hX.out
          have HA5 := Lib.hid ((HA4.out.set (1 + 8 * i + 2) x2 (by (try simp only [List.length_set]); have := HL.out; have := HNI.out; omega)).drew)
          have HO5 := Lib.hid (only_drew (only_setb HO4.out (1 + 8 * i + 2) (.int .u8 (x2.toNat : Int))))
          generalize (wz4.setCell ⟨g, 1 + 8 * i + 2, none⟩ (.int .u8 (x2.toNat : Int))).drew = wz5 at HA5 HO5 ⊢
          have HS5 := Lib.hid (HS0.out.past HO5.out hbw hbg)
          clear d1 d2 s0 HA4 HO4 r1 e0 HS4
          have hix : 1 + 8 * i + 1 < ((((((M).set (1 + 8 * i + 6) x6).set (1 + 8 * i + 5) x5).set (1 + 8 * i + 4) x4).set (1 + 8 * i + 3) x3).set (1 + 8 * i + 2) x2).length := by (try simp only [List.length_set]); have := HL.out; have := HNI.out; omega
          obtain ⟨d1, d2⟩ := HA5.out.at_ (1 + 8 * i + 1) _ (List.getElem?_eq_getElem hix)
          generalize ((((((M).set (1 + 8 * i + 6) x6).set (1 + 8 * i + 5) x5).set (1 + 8 * i + 4) x4).set (1 + 8 * i + 3) x3).set (1 + 8 * i + 2) x2)[1 + 8 * i + 1]'hix = old at d1
          have r0 : wz5.cell? ⟨b, o, none⟩ = some (.int .u8 (z0 : Nat)) := by have h := HS5.out 0 _ rfl; rw [HZ0.out] at h; exact h
          have r1 : wz5.cell? ⟨b, o + 1, none⟩ = some (.int .u8 (z1 : Nat)) := by have h := HS5.out 1 _ rfl; rw [HZ1.out] at h; exact h
          have s0 : wz5.cell? ⟨p, 0, none⟩ = some (.string abc) := HE.out.str HO5.out hp
          obtain ⟨k, hk⟩ : ∃ k, z0 % 8 * 4 + z1 / 64 = k := ⟨_, rfl⟩
          have hk32 : k < 32 := by omega
          have hk32' : k < abc.size := hk32
          have e0 : bits .or .u8 ((z1 : Int) / 64 % 32) ((z0 : Int) * 4 % 32) = (k : Int) := dg1t h1 hk
          have e1 : bits .or .u8 ((z1 : Int) / 64) ((z0 : Int) * 4 % 32) = (k : Int) := dg1 h1 hk
          obtain ⟨x1, hx, hxl⟩ := abc_get k hk32'
          have HX1 : Hid (letter (z0 % 8 * 4 + z1 / 64) = x1) := by show _ = _; rw [hk]; exact hxl
          have g4 : (k : Int) < 32 := by omega
          clear hk hxl hix
          go_wp2_with fail
          apply wp_hold
          · intro hX
            go_region
            exact hX.out
          have HA6 := Lib.hid ((HA5.out.set (1 + 8 * i + 1) x1 (by (try simp only [List.length_set]); have := HL.out; have := HNI.out; omega)).drew)
          have HO6 := Lib.hid (only_drew (only_setb HO5.out (1 + 8 * i + 1) (.int .u8 (x1.toNat : Int))))
          generalize (wz5.setCell ⟨g, 1 + 8 * i + 1, none⟩ (.int .u8 (x1.toNat : Int))).drew = wz6 at HA6 HO6 ⊢
          have HS6 := Lib.hid (HS0.out.past HO6.out hbw hbg)
          clear d1 d2 s0 HA5 HO5 r0 r1 e0 e1 HS5
          have hix : 1 + 8 * i < (((((((M).set (1 + 8 * i + 6) x6).set (1 + 8 * i + 5) x5).set (1 + 8 * i + 4) x4).set (1 + 8 * i + 3) x3).set (1 + 8 * i + 2) x2).set (1 + 8 * i + 1) x1).length := by (try simp only [List.length_set]); have := HL.out; have := HNI.out; omega
          obtain ⟨d1, d2⟩ := HA6.out.at_ (1 + 8 * i) _ (List.getElem?_eq_getElem hix)
          generalize (((((((M).set (1 + 8 * i + 6) x6).set (1 + 8 * i + 5) x5).set (1 + 8 * i + 4) x4).set (1 + 8 * i + 3) x3).set (1 + 8 * i + 2) x2).set (1 + 8 * i + 1) x1)[1 + 8 * i]'hix = old at d1
          have r0 : wz6.cell? ⟨b, o, none⟩ = some (.int .u8 (z0 : Nat)) := by have h := HS6.out 0 _ rfl; rw [HZ0.out] at h; exact h
          have s0 : wz6.cell? ⟨p, 0, none⟩ = some (.string abc) := HE.out.str HO6.out hp
          obtain ⟨k, hk⟩ : ∃ k, z0 / 8 = k := ⟨_, rfl⟩
          have hk32 : k < 32 := by omega
          have hk32' : k < abc.size := hk32
          have e0 : (z0 : Int) / 8 = (k : Int) := by omega
          obtain ⟨x0, hx, hxl⟩ := abc_get k hk32'
          have HX0 : Hid (letter (z0 / 8) = x0) := by show _ = _; rw [hk]; exact hxl
          have g4 : (k : Int) < 32 := by omega
          clear hk hxl hix
          go_wp2_with fail
          apply wp_hold
          · intro hX
            go_region
            exact hX.out
          have HA7 := Lib.hid ((HA6.out.set (1 + 8 * i) x0 (by (try simp only [List.length_set]); have := HL.out; have := HNI.out; omega)).drew)
          have HO7 := Lib.hid (only_drew (only_setb HO6.out (1 + 8 * i) (.int .u8 (x0.toNat : Int))))
          generalize (wz6.setCell ⟨g, 1 + 8 * i, none⟩ (.int .u8 (x0.toNat : Int))).drew = wz7 at HA7 HO7 ⊢
          have HS7 := Lib.hid (HS0.out.past HO7.out hbw hbg)
          clear d1 d2 s0 HA6 HO6 r0 e0 HS6
          have s1 : wz7.cell? ⟨p, 257, none⟩ = some (.int .i32 (-1)) := HE.out.pad HO7.out hp
          have HF : Hid (ByRow wz7 g (row32 l)) := by
            show ByRow _ _ _
            have hR := row32_drop l i HI5.out
            rw [HD.out, enc5] at hR
            simp only [List.map_cons, List.map_nil, HZ0.out, HZ1.out, HZ2.out, HZ3.out, HX0.out, HX1.out, HX2.out, HX3.out, HX4.out, HX5.out, HX6.out] at hR
            rw [← tail_set7 M (row32 l) (1 + 8 * i) _ _ _ _ _ _ _ (by have := HL.out; have := HNI.out; omega) HMid.out.told hR]
            exact HA7.out
          go_wp2
          refine bodyPost_end (results_none rfl _ _ _) rfl ?_
          exact ⟨rfl, HF.out, HO7.out⟩
end Go.Proofs.Ytijbdinemjiepaa
