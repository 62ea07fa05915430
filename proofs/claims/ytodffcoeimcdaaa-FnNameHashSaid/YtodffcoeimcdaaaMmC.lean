/- murmur3: the reference's Murmur. -/
import Derived.Test.YtodffcoeimcdaaaMmB
namespace Go.Proofs.Ytodffcoeimcdaaa
open Go.RowKit Go.Lib

theorem Reads.head {w : World} {B n k : Nat} {A : Option Addr} {l : List UInt8} (h : Reads w B 1 A n (u8s l)) (hk : k ≤ n) : Reads w B 1 A k (u8s (l.take k)) := by
  have hl : l.length = n := by have := h.1; rw [u8s_length] at this; omega
  refine ⟨by rw [u8s_length, List.length_take]; omega, fun h0 => ?_⟩
  obtain ⟨ad, e, hb, hc⟩ := h.2 (by omega)
  refine ⟨ad, e, hb, fun j u hu => hc j u ?_⟩
  rw [u8s_take, List.getElem?_take] at hu
  split at hu
  · exact hu
  · cases hu
theorem cut_src {w : World} {B n c k : Nat} {b o : Nat} {l : List UInt8} (h : Reads w B 1 (some ⟨b, o, none⟩) n (u8s l)) (hk : k ≤ n) (hnc : n ≤ c) : Reads w B 1 (if c = k then some ⟨b, o, none⟩ else some ⟨b, o + k, none⟩) (n - k) (u8s (l.drop k)) := by
  have h' := h.cut hk hnc
  rw [Nat.mul_one, ← u8s_drop] at h'
  simpa [add_plain] using h'
theorem st_next {l : List UInt8} {i h k x y a b : Nat} (hs : st l i = (h, k)) (hx : leN ((l.drop (16 * i)).take 8) = x) (hy : leN ((l.drop (16 * i + 8)).take 8) = y) (ha : stepH h k x = a) (hb : stepK a k y = b) : st l (i + 1) = (a, b) := by
  simp only [st, hs, hx, hy, ha, hb]
set_option maxRecDepth 100000 in
set_option maxHeartbeats 8000000 in
theorem murmur_any (A : Option Addr) (n c B : Nat) (l : List UInt8) (w : World) (hr : Reads w B 1 A n (u8s l)) (hn : n ≤ 5000) (hnc : n ≤ c) :
    Calls Try.prog 8 #[.slice A n c] w fun e w' => e = .returned (.int .u64 ((mur l : Nat) : Int)) ∧ w' = w := by
  have hln : l.length = n := by have := hr.1; rw [u8s_length] at this; omega
  have HR := Lib.hid hr
  have HLN := Lib.hid hln
  clear hr hln
  go_enter Try.func8, Try.ntmps8
  go_wp2
  go_loopw [0, 3, 4] (fun sb sh sk wr => wr = w ∧ ∃ (i ns cs : Nat) (As : Option Addr) (h k : Nat), sb = .slice As ns cs ∧ sh = .int .u64 h ∧ sk = .int .u64 k ∧ ns + 16 * i = n ∧ ns ≤ cs ∧ Hid (st l i = (h, k)) ∧ Hid (Reads w B 1 As ns (u8s (l.drop (16 * i))))) (fun sb _ _ _ => slen sb)
  case atStart => exact ⟨rfl, 0, n, c, A, 0, 0, rfl, rfl, rfl, rfl, hnc, rfl, HR.out⟩
  case round =>
    obtain ⟨rfl, i, ns, cs, As, h, k, rfl, rfl, rfl, hni, hns, HST, HRD⟩ := hrel
    have lh : h < 18446744073709551616 := by have := (st_lt l i).1; rw [HST.out] at this; exact this
    have lk : k < 18446744073709551616 := by have := (st_lt l i).2; rw [HST.out] at this; exact this
    by_cases hlt : 16 ≤ ns
    · obtain ⟨b, o, rfl, hbB, -⟩ := HRD.out.lit (show 0 < ns by omega)
      have R1 := Lib.hid (HRD.out.head (k := 8) (by omega))
      have R2 : Hid (Reads wr B 1 (some ⟨b, o + 8, none⟩) 8 (u8s ((l.drop (16 * i + 8)).take 8))) := by
        have h1 := cut_src HRD.out (k := 8) (by omega) hns
        rw [if_neg (by omega), List.drop_drop] at h1
        exact h1.head (by omega)
      have R3 := Lib.hid (cut_src HRD.out (k := 16) (by omega) hns)
      have g1 : (16 : Int) ≤ (ns : Int) := by omega
      have g2 : (8 : Int) ≤ (cs : Int) := by omega
      have g3 : (16 : Int) ≤ (cs : Int) := by omega
      have g4 : ¬ cs = 8 := by omega
      obtain ⟨x, hx⟩ : ∃ x, leN ((l.drop (16 * i)).take 8) = x := ⟨_, rfl⟩
      obtain ⟨y, hy⟩ : ∃ y, leN ((l.drop (16 * i + 8)).take 8) = y := ⟨_, rfl⟩
      have HX := Lib.hid hx
      have HY := Lib.hid hy
      clear hx hy
      obtain ⟨a1, qa1⟩ : ∃ z, mulN x 9782798678568883157 = z := ⟨_, rfl⟩
      have la1 : a1 < 18446744073709551616 := by rw [← qa1]; exact mulN_lt _ _
      have ea1 := mulC qa1
      have Qa1 := Lib.hid qa1
      obtain ⟨a2, qa2⟩ : ∃ z, rotN a1 31 = z := ⟨_, rfl⟩
      have la2 : a2 < 18446744073709551616 := by rw [← qa2]; exact rotN_lt _ la1
      have ea2 := rot31 la1 qa2
      have Qa2 := Lib.hid qa2
      obtain ⟨a3, qa3⟩ : ∃ z, mulN a2 5545529020109919103 = z := ⟨_, rfl⟩
      have la3 : a3 < 18446744073709551616 := by rw [← qa3]; exact mulN_lt _ _
      have ea3 := mulD qa3
      have Qa3 := Lib.hid qa3
      obtain ⟨a4, qa4⟩ : ∃ z, h ^^^ a3 = z := ⟨_, rfl⟩
      have la4 : a4 < 18446744073709551616 := by rw [← qa4]; exact xor_lt lh la3
      have ea4 := xorI lh la3 qa4
      have Qa4 := Lib.hid qa4
      obtain ⟨a5, qa5⟩ : ∃ z, rotN a4 27 = z := ⟨_, rfl⟩
      have la5 : a5 < 18446744073709551616 := by rw [← qa5]; exact rotN_lt _ la4
      have ea5 := rot27 la4 qa5
      have Qa5 := Lib.hid qa5
      obtain ⟨a6, qa6⟩ : ∃ z, addN a5 k = z := ⟨_, rfl⟩
      have la6 : a6 < 18446744073709551616 := by rw [← qa6]; exact addN_lt _ _
      have ea6 := addI qa6
      have Qa6 := Lib.hid qa6
      obtain ⟨a7, qa7⟩ : ∃ z, mulN a6 5 = z := ⟨_, rfl⟩
      have la7 : a7 < 18446744073709551616 := by rw [← qa7]; exact mulN_lt _ _
      have ea7 := mul5 qa7
      have Qa7 := Lib.hid qa7
      obtain ⟨a8, qa8⟩ : ∃ z, addN a7 1390208809 = z := ⟨_, rfl⟩
      have la8 : a8 < 18446744073709551616 := by rw [← qa8]; exact addN_lt _ _
      have ea8 := addA qa8
      have Qa8 := Lib.hid qa8
      obtain ⟨b1, qb1⟩ : ∃ z, mulN y 5545529020109919103 = z := ⟨_, rfl⟩
      have lb1 : b1 < 18446744073709551616 := by rw [← qb1]; exact mulN_lt _ _
      have eb1 := mulD qb1
      have Qb1 := Lib.hid qb1
      obtain ⟨b2, qb2⟩ : ∃ z, rotN b1 33 = z := ⟨_, rfl⟩
      have lb2 : b2 < 18446744073709551616 := by rw [← qb2]; exact rotN_lt _ lb1
      have eb2 := rot33 lb1 qb2
      have Qb2 := Lib.hid qb2
      obtain ⟨b3, qb3⟩ : ∃ z, mulN b2 9782798678568883157 = z := ⟨_, rfl⟩
      have lb3 : b3 < 18446744073709551616 := by rw [← qb3]; exact mulN_lt _ _
      have eb3 := mulC qb3
      have Qb3 := Lib.hid qb3
      obtain ⟨b4, qb4⟩ : ∃ z, k ^^^ b3 = z := ⟨_, rfl⟩
      have lb4 : b4 < 18446744073709551616 := by rw [← qb4]; exact xor_lt lk lb3
      have eb4 := xorI lk lb3 qb4
      have Qb4 := Lib.hid qb4
      obtain ⟨b5, qb5⟩ : ∃ z, rotN b4 31 = z := ⟨_, rfl⟩
      have lb5 : b5 < 18446744073709551616 := by rw [← qb5]; exact rotN_lt _ lb4
      have eb5 := rot31 lb4 qb5
      have Qb5 := Lib.hid qb5
      obtain ⟨b6, qb6⟩ : ∃ z, addN b5 a8 = z := ⟨_, rfl⟩
      have lb6 : b6 < 18446744073709551616 := by rw [← qb6]; exact addN_lt _ _
      have eb6 := addI qb6
      have Qb6 := Lib.hid qb6
      obtain ⟨b7, qb7⟩ : ∃ z, mulN b6 5 = z := ⟨_, rfl⟩
      have lb7 : b7 < 18446744073709551616 := by rw [← qb7]; exact mulN_lt _ _
      have eb7 := mul5 qb7
      have Qb7 := Lib.hid qb7
      obtain ⟨b8, qb8⟩ : ∃ z, addN b7 944331445 = z := ⟨_, rfl⟩
      have lb8 : b8 < 18446744073709551616 := by rw [← qb8]; exact addN_lt _ _
      have eb8 := addB qb8
      have Qb8 := Lib.hid qb8
      have hH : Hid (stepH h k x = a8) := by show _ = _; rw [stepH, qa1, qa2, qa3, qa4, qa5, qa6, qa7, qa8]
      have hK : Hid (stepK a8 k y = b8) := by show _ = _; rw [stepK, qb1, qb2, qb3, qb4, qb5, qb6, qb7, qb8]
      have Ma1 := Lib.hid la1
      have Ma2 := Lib.hid la2
      have Ma3 := Lib.hid la3
      have Ma4 := Lib.hid la4
      have Ma5 := Lib.hid la5
      have Ma6 := Lib.hid la6
      have Ma7 := Lib.hid la7
      have Ma8 := Lib.hid la8
      have Mb1 := Lib.hid lb1
      have Mb2 := Lib.hid lb2
      have Mb3 := Lib.hid lb3
      have Mb4 := Lib.hid lb4
      have Mb5 := Lib.hid lb5
      have Mb6 := Lib.hid lb6
      have Mb7 := Lib.hid lb7
      have Mb8 := Lib.hid lb8
      clear qa1 qa2 qa3 qa4 qa5 qa6 qa7 qa8 qb1 qb2 qb3 qb4 qb5 qb6 qb7 qb8 lh lk la1 la2 la3 la4 la5 la6 la7 la8 lb1 lb2 lb3 lb4 lb5 lb6 lb7 lb8
      have L1 := Lib.hid (fun W (cc : Nat) (hw : W = wr) => little_any (some ⟨b, o, none⟩) 8 cc B ((l.drop (16 * i)).take 8) W (by rw [hw]; exact R1.out) (Nat.le_refl 8))
      have L2 := Lib.hid (fun W (cc : Nat) (hw : W = wr) => little_any (some ⟨b, o + 8, none⟩) 8 cc B ((l.drop (16 * i + 8)).take 8) W (by rw [hw]; exact R2.out) (Nat.le_refl 8))
      by_cases hc16 : cs = 16
      all_goals
        go_wp2_with (first | (go_at_call 11; with_reducible refine (L1.out _ _ rfl).mono ?_; rw [HX.out]; rintro e w' ⟨rfl, rfl⟩) | (go_at_call 11; with_reducible refine (L2.out _ _ rfl).mono ?_; rw [HY.out]; rintro e w' ⟨rfl, rfl⟩) | (go_at_call_of 10 (Value.int .u64 (a1 : Int)); refine (rot31_any a1 _ Ma1.out).mono ?_; rw [Qa2.out]; rintro e w' ⟨rfl, rfl⟩) | (go_at_call_of 10 (Value.int .u64 (a4 : Int)); refine (rot27_any a4 _ Ma4.out).mono ?_; rw [Qa5.out]; rintro e w' ⟨rfl, rfl⟩) | (go_at_call_of 10 (Value.int .u64 (b1 : Int)); refine (rot33_any b1 _ Mb1.out).mono ?_; rw [Qb2.out]; rintro e w' ⟨rfl, rfl⟩) | (go_at_call_of 10 (Value.int .u64 (b4 : Int)); refine (rot31_any b4 _ Mb4.out).mono ?_; rw [Qb5.out]; rintro e w' ⟨rfl, rfl⟩) | fail)
        refine ⟨⟨trivial, i + 1, ns - 16, _, _, a8, b8, rfl, rfl, rfl, by omega, by omega, ?_, ?_⟩, ?_⟩
        · exact st_next HST.out HX.out HY.out hH.out hK.out
        · show Reads _ _ _ _ _ _
          have h3 := R3.out
          rw [List.drop_drop, show 16 * i + 16 = 16 * (i + 1) by omega] at h3
          first | (rw [if_pos hc16] at h3; exact h3) | (rw [if_neg hc16] at h3; exact h3)
        · show ns - 16 < ns
          omega
    · have hl16 : l.length / 16 = i := by have := HLN.out; omega
      have htl : (l.drop (16 * i)).length = ns := by rw [List.length_drop]; have := HLN.out; omega
      have HMU : Hid (mur l = lastN (tailH h (l.drop (16 * i))) (tailK k (l.drop (16 * i))) n) := by show _ = _; rw [mur, hl16, HST.out, HLN.out]
      have g1 : ¬ (16 : Int) ≤ (ns : Int) := by omega
      have ln : n < 18446744073709551616 := by omega
      have en : IntKind.u64.wrap (n : Int) = (n : Int) := by rw [IntKind.wrap_u64]; omega
      obtain ⟨t, ht⟩ : ∃ t, l.drop (16 * i) = t := ⟨_, rfl⟩
      rw [ht] at HRD htl HMU
      clear ht hl16 hlt HST
      by_cases h8 : 8 < ns
      · obtain ⟨b, o, rfl, hbB, -⟩ := HRD.out.lit (show 0 < ns by omega)
        have g2 : (8 : Int) < (ns : Int) := by omega
        have g3 : (8 : Int) ≤ (ns : Int) := by omega
        have g4 : ¬ cs = 8 := by omega
        have g5 : (8 : Int) ≤ (cs : Int) := by omega
        have R1 := Lib.hid (HRD.out.head (k := 8) (by omega))
        have R2 : Hid (Reads wr B 1 (some ⟨b, o + 8, none⟩) (ns - 8) (u8s (t.drop 8))) := by
          have h1 := cut_src HRD.out (k := 8) (by omega) hns
          rw [if_neg (by omega)] at h1
          exact h1
        have HTK : Hid (tailK k t = k ^^^ mulN (rotN (mulN (leN (t.drop 8)) 5545529020109919103) 33) 9782798678568883157) := by show _ = _; rw [tailK, if_pos (by omega)]
        have HTH : Hid (tailH h t = h ^^^ mulN (rotN (mulN (leN (t.take 8)) 9782798678568883157) 31) 5545529020109919103) := by show _ = _; rw [tailH, if_pos (by omega)]
        obtain ⟨x, hx⟩ : ∃ x, leN (t.take 8) = x := ⟨_, rfl⟩
        obtain ⟨y, hy⟩ : ∃ y, leN (t.drop 8) = y := ⟨_, rfl⟩
        rw [hx] at HTH
        rw [hy] at HTK
        have HX := Lib.hid hx
        have HY := Lib.hid hy
        have L1 := Lib.hid (fun W (cc : Nat) (hw : W = wr) => little_any (some ⟨b, o, none⟩) 8 cc B (t.take 8) W (by rw [hw]; exact R1.out) (Nat.le_refl 8))
        have L2 := Lib.hid (fun W (cc : Nat) (hw : W = wr) => little_any (some ⟨b, o + 8, none⟩) (ns - 8) cc B (t.drop 8) W (by rw [hw]; exact R2.out) (by omega))
        clear hx hy htl
        obtain ⟨a1, qa1⟩ : ∃ z, mulN x 9782798678568883157 = z := ⟨_, rfl⟩
        have la1 : a1 < 18446744073709551616 := by rw [← qa1]; exact mulN_lt _ _
        have ea1 := mulC qa1
        have Qa1 := Lib.hid qa1
        obtain ⟨a2, qa2⟩ : ∃ z, rotN a1 31 = z := ⟨_, rfl⟩
        have la2 : a2 < 18446744073709551616 := by rw [← qa2]; exact rotN_lt _ la1
        have ea2 := rot31 la1 qa2
        have Qa2 := Lib.hid qa2
        obtain ⟨a3, qa3⟩ : ∃ z, mulN a2 5545529020109919103 = z := ⟨_, rfl⟩
        have la3 : a3 < 18446744073709551616 := by rw [← qa3]; exact mulN_lt _ _
        have ea3 := mulD qa3
        have Qa3 := Lib.hid qa3
        obtain ⟨hh, qhh⟩ : ∃ z, h ^^^ a3 = z := ⟨_, rfl⟩
        have lhh : hh < 18446744073709551616 := by rw [← qhh]; exact xor_lt lh la3
        have ehh := xorI lh la3 qhh
        have Qhh := Lib.hid qhh
        obtain ⟨b1, qb1⟩ : ∃ z, mulN y 5545529020109919103 = z := ⟨_, rfl⟩
        have lb1 : b1 < 18446744073709551616 := by rw [← qb1]; exact mulN_lt _ _
        have eb1 := mulD qb1
        have Qb1 := Lib.hid qb1
        obtain ⟨b2, qb2⟩ : ∃ z, rotN b1 33 = z := ⟨_, rfl⟩
        have lb2 : b2 < 18446744073709551616 := by rw [← qb2]; exact rotN_lt _ lb1
        have eb2 := rot33 lb1 qb2
        have Qb2 := Lib.hid qb2
        obtain ⟨b3, qb3⟩ : ∃ z, mulN b2 9782798678568883157 = z := ⟨_, rfl⟩
        have lb3 : b3 < 18446744073709551616 := by rw [← qb3]; exact mulN_lt _ _
        have eb3 := mulC qb3
        have Qb3 := Lib.hid qb3
        obtain ⟨kk, qkk⟩ : ∃ z, k ^^^ b3 = z := ⟨_, rfl⟩
        have lkk : kk < 18446744073709551616 := by rw [← qkk]; exact xor_lt lk lb3
        have ekk := xorI lk lb3 qkk
        have Qkk := Lib.hid qkk
        obtain ⟨c1, qc1⟩ : ∃ z, hh ^^^ n = z := ⟨_, rfl⟩
        have lc1 : c1 < 18446744073709551616 := by rw [← qc1]; exact xor_lt lhh ln
        have ec1 := xorI lhh ln qc1
        have Qc1 := Lib.hid qc1
        obtain ⟨c2, qc2⟩ : ∃ z, kk ^^^ n = z := ⟨_, rfl⟩
        have lc2 : c2 < 18446744073709551616 := by rw [← qc2]; exact xor_lt lkk ln
        have ec2 := xorI lkk ln qc2
        have Qc2 := Lib.hid qc2
        obtain ⟨c3, qc3⟩ : ∃ z, addN c1 c2 = z := ⟨_, rfl⟩
        have lc3 : c3 < 18446744073709551616 := by rw [← qc3]; exact addN_lt _ _
        have ec3 := addI qc3
        have Qc3 := Lib.hid qc3
        obtain ⟨c4, qc4⟩ : ∃ z, addN c2 c3 = z := ⟨_, rfl⟩
        have lc4 : c4 < 18446744073709551616 := by rw [← qc4]; exact addN_lt _ _
        have ec4 := addI qc4
        have Qc4 := Lib.hid qc4
        obtain ⟨d1, qd1⟩ : ∃ z, mixN c3 = z := ⟨_, rfl⟩
        have Qd1 := Lib.hid qd1
        obtain ⟨d2, qd2⟩ : ∃ z, mixN c4 = z := ⟨_, rfl⟩
        have Qd2 := Lib.hid qd2
        obtain ⟨c5, qc5⟩ : ∃ z, addN d1 d2 = z := ⟨_, rfl⟩
        have ec5 := addI qc5
        have HEND : Hid (lastN hh kk n = c5) := by show _ = _; rw [lastN, qc1, qc2, qc3, qc4, qd1, qd2, qc5]
        have Ma1 := Lib.hid la1
        have Ma2 := Lib.hid la2
        have Ma3 := Lib.hid la3
        have Mhh := Lib.hid lhh
        have Mb1 := Lib.hid lb1
        have Mb2 := Lib.hid lb2
        have Mb3 := Lib.hid lb3
        have Mkk := Lib.hid lkk
        have Mc1 := Lib.hid lc1
        have Mc2 := Lib.hid lc2
        have Mc3 := Lib.hid lc3
        have Mc4 := Lib.hid lc4
        clear qa1 qa2 qa3 qhh qb1 qb2 qb3 qkk qc1 qc2 qc3 qc4 qd1 qd2 qc5 ln la1 la2 la3 lhh lb1 lb2 lb3 lkk lc1 lc2 lc3 lc4 lh lk
        go_wp2_with (first | (go_at_call 11; with_reducible refine (L1.out _ _ rfl).mono ?_; rw [HX.out]; rintro e w' ⟨rfl, rfl⟩) | (go_at_call 11; with_reducible refine (L2.out _ _ rfl).mono ?_; rw [HY.out]; rintro e w' ⟨rfl, rfl⟩) | (go_at_call_of 10 (Value.int .u64 (a1 : Int)); refine (rot31_any a1 _ Ma1.out).mono ?_; rw [Qa2.out]; rintro e w' ⟨rfl, rfl⟩) | (go_at_call_of 10 (Value.int .u64 (b1 : Int)); refine (rot33_any b1 _ Mb1.out).mono ?_; rw [Qb2.out]; rintro e w' ⟨rfl, rfl⟩) | (go_at_call_of 12 (Value.int .u64 (c3 : Int)); refine (mixed_any c3 _ Mc3.out).mono ?_; rw [Qd1.out]; rintro e w' ⟨rfl, rfl⟩) | (go_at_call_of 12 (Value.int .u64 (c4 : Int)); refine (mixed_any c4 _ Mc4.out).mono ?_; rw [Qd2.out]; rintro e w' ⟨rfl, rfl⟩) | fail)
        go_ret
        exact ⟨by rw [HMU.out, HTH.out, HTK.out, Qa1.out, Qa2.out, Qa3.out, Qhh.out, Qb1.out, Qb2.out, Qb3.out, Qkk.out, HEND.out]; rfl, rfl⟩
      · have g2 : ¬ (8 : Int) < (ns : Int) := by omega
        have HTK : Hid (tailK k t = k) := by show _ = _; rw [tailK, if_neg (by omega)]
        by_cases h0 : 0 < ns
        · have g3 : (0 : Int) < (ns : Int) := by omega
          have HTH : Hid (tailH h t = h ^^^ mulN (rotN (mulN (leN t) 9782798678568883157) 31) 5545529020109919103) := by show _ = _; rw [tailH, if_pos (by omega), List.take_of_length_le (by omega)]
          obtain ⟨x, hx⟩ : ∃ x, leN t = x := ⟨_, rfl⟩
          rw [hx] at HTH
          have HX := Lib.hid hx
          have L1 := Lib.hid (fun W (cc : Nat) (hw : W = wr) => little_any As ns cc B t W (by rw [hw]; exact HRD.out) (by omega))
          clear hx htl
          obtain ⟨a1, qa1⟩ : ∃ z, mulN x 9782798678568883157 = z := ⟨_, rfl⟩
          have la1 : a1 < 18446744073709551616 := by rw [← qa1]; exact mulN_lt _ _
          have ea1 := mulC qa1
          have Qa1 := Lib.hid qa1
          obtain ⟨a2, qa2⟩ : ∃ z, rotN a1 31 = z := ⟨_, rfl⟩
          have la2 : a2 < 18446744073709551616 := by rw [← qa2]; exact rotN_lt _ la1
          have ea2 := rot31 la1 qa2
          have Qa2 := Lib.hid qa2
          obtain ⟨a3, qa3⟩ : ∃ z, mulN a2 5545529020109919103 = z := ⟨_, rfl⟩
          have la3 : a3 < 18446744073709551616 := by rw [← qa3]; exact mulN_lt _ _
          have ea3 := mulD qa3
          have Qa3 := Lib.hid qa3
          obtain ⟨hh, qhh⟩ : ∃ z, h ^^^ a3 = z := ⟨_, rfl⟩
          have lhh : hh < 18446744073709551616 := by rw [← qhh]; exact xor_lt lh la3
          have ehh := xorI lh la3 qhh
          have Qhh := Lib.hid qhh
          obtain ⟨c1, qc1⟩ : ∃ z, hh ^^^ n = z := ⟨_, rfl⟩
          have lc1 : c1 < 18446744073709551616 := by rw [← qc1]; exact xor_lt lhh ln
          have ec1 := xorI lhh ln qc1
          have Qc1 := Lib.hid qc1
          obtain ⟨c2, qc2⟩ : ∃ z, k ^^^ n = z := ⟨_, rfl⟩
          have lc2 : c2 < 18446744073709551616 := by rw [← qc2]; exact xor_lt lk ln
          have ec2 := xorI lk ln qc2
          have Qc2 := Lib.hid qc2
          obtain ⟨c3, qc3⟩ : ∃ z, addN c1 c2 = z := ⟨_, rfl⟩
          have lc3 : c3 < 18446744073709551616 := by rw [← qc3]; exact addN_lt _ _
          have ec3 := addI qc3
          have Qc3 := Lib.hid qc3
          obtain ⟨c4, qc4⟩ : ∃ z, addN c2 c3 = z := ⟨_, rfl⟩
          have lc4 : c4 < 18446744073709551616 := by rw [← qc4]; exact addN_lt _ _
          have ec4 := addI qc4
          have Qc4 := Lib.hid qc4
          obtain ⟨d1, qd1⟩ : ∃ z, mixN c3 = z := ⟨_, rfl⟩
          have Qd1 := Lib.hid qd1
          obtain ⟨d2, qd2⟩ : ∃ z, mixN c4 = z := ⟨_, rfl⟩
          have Qd2 := Lib.hid qd2
          obtain ⟨c5, qc5⟩ : ∃ z, addN d1 d2 = z := ⟨_, rfl⟩
          have ec5 := addI qc5
          have HEND : Hid (lastN hh k n = c5) := by show _ = _; rw [lastN, qc1, qc2, qc3, qc4, qd1, qd2, qc5]
          have Ma1 := Lib.hid la1
          have Ma2 := Lib.hid la2
          have Ma3 := Lib.hid la3
          have Mhh := Lib.hid lhh
          have Mc1 := Lib.hid lc1
          have Mc2 := Lib.hid lc2
          have Mc3 := Lib.hid lc3
          have Mc4 := Lib.hid lc4
          clear qa1 qa2 qa3 qhh qc1 qc2 qc3 qc4 qd1 qd2 qc5 ln la1 la2 la3 lhh lc1 lc2 lc3 lc4 lh lk
          go_wp2_with (first | (go_at_call 11; with_reducible refine (L1.out _ _ rfl).mono ?_; rw [HX.out]; rintro e w' ⟨rfl, rfl⟩) | (go_at_call_of 10 (Value.int .u64 (a1 : Int)); refine (rot31_any a1 _ Ma1.out).mono ?_; rw [Qa2.out]; rintro e w' ⟨rfl, rfl⟩) | (go_at_call_of 12 (Value.int .u64 (c3 : Int)); refine (mixed_any c3 _ Mc3.out).mono ?_; rw [Qd1.out]; rintro e w' ⟨rfl, rfl⟩) | (go_at_call_of 12 (Value.int .u64 (c4 : Int)); refine (mixed_any c4 _ Mc4.out).mono ?_; rw [Qd2.out]; rintro e w' ⟨rfl, rfl⟩) | fail)
          go_ret
          exact ⟨by rw [HMU.out, HTH.out, HTK.out, Qa1.out, Qa2.out, Qa3.out, Qhh.out, HEND.out]; rfl, rfl⟩
        · have g3 : ¬ (0 : Int) < (ns : Int) := by omega
          have HTH : Hid (tailH h t = h) := by show _ = _; rw [tailH, if_neg (by omega)]
          clear htl
          obtain ⟨c1, qc1⟩ : ∃ z, h ^^^ n = z := ⟨_, rfl⟩
          have lc1 : c1 < 18446744073709551616 := by rw [← qc1]; exact xor_lt lh ln
          have ec1 := xorI lh ln qc1
          have Qc1 := Lib.hid qc1
          obtain ⟨c2, qc2⟩ : ∃ z, k ^^^ n = z := ⟨_, rfl⟩
          have lc2 : c2 < 18446744073709551616 := by rw [← qc2]; exact xor_lt lk ln
          have ec2 := xorI lk ln qc2
          have Qc2 := Lib.hid qc2
          obtain ⟨c3, qc3⟩ : ∃ z, addN c1 c2 = z := ⟨_, rfl⟩
          have lc3 : c3 < 18446744073709551616 := by rw [← qc3]; exact addN_lt _ _
          have ec3 := addI qc3
          have Qc3 := Lib.hid qc3
          obtain ⟨c4, qc4⟩ : ∃ z, addN c2 c3 = z := ⟨_, rfl⟩
          have lc4 : c4 < 18446744073709551616 := by rw [← qc4]; exact addN_lt _ _
          have ec4 := addI qc4
          have Qc4 := Lib.hid qc4
          obtain ⟨d1, qd1⟩ : ∃ z, mixN c3 = z := ⟨_, rfl⟩
          have Qd1 := Lib.hid qd1
          obtain ⟨d2, qd2⟩ : ∃ z, mixN c4 = z := ⟨_, rfl⟩
          have Qd2 := Lib.hid qd2
          obtain ⟨c5, qc5⟩ : ∃ z, addN d1 d2 = z := ⟨_, rfl⟩
          have ec5 := addI qc5
          have HEND : Hid (lastN h k n = c5) := by show _ = _; rw [lastN, qc1, qc2, qc3, qc4, qd1, qd2, qc5]
          have Mc1 := Lib.hid lc1
          have Mc2 := Lib.hid lc2
          have Mc3 := Lib.hid lc3
          have Mc4 := Lib.hid lc4
          clear qc1 qc2 qc3 qc4 qd1 qd2 qc5 ln lc1 lc2 lc3 lc4 lh lk
          go_wp2_with (first | (go_at_call_of 12 (Value.int .u64 (c3 : Int)); refine (mixed_any c3 _ Mc3.out).mono ?_; rw [Qd1.out]; rintro e w' ⟨rfl, rfl⟩) | (go_at_call_of 12 (Value.int .u64 (c4 : Int)); refine (mixed_any c4 _ Mc4.out).mono ?_; rw [Qd2.out]; rintro e w' ⟨rfl, rfl⟩) | fail)
          go_ret
          exact ⟨by rw [HMU.out, HTH.out, HTK.out, HEND.out]; rfl, rfl⟩
end Go.Proofs.Ytodffcoeimcdaaa
