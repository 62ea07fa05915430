/- murmur3: bmix. -/
import Derived.Test.YtodffcoeimcdaaaMmE
namespace Go.Proofs.Ytodffcoeimcdaaa
open Go.RowKit Go.Lib

theorem src_of {w : World} {b o n : Nat} {B : Nat} {ys : List UInt8} (h : Reads w B 1 (some ⟨b, o, none⟩) n (u8s ys)) : Src w b o ys := fun j y hy => by
  have hj : j < ys.length := (List.getElem?_eq_some_iff.1 hy).1
  have hn : 0 < n := by have := h.1; rw [u8s_length] at this; omega
  obtain ⟨ad, e, _, hc⟩ := h.2 hn
  injection e with e
  subst e
  have := hc j (.int .u8 (y.toNat : Int)) (by rw [u8s_at _ _ hj, (List.getElem?_eq_some_iff.1 hy).2])
  rwa [add_plain] at this
theorem Reads.past {w w' : World} {B size n b : Nat} {A : Option Addr} {xs : List Value} (h : Reads w B size A n xs) (hg : w.grownBy w' (some b)) (hB : B ≤ w.heap.size) (hA : ∀ ad, A = some ad → ad.block ≠ b) : Reads w' B size A n xs :=
  ⟨h.1, fun hn => by
    obtain ⟨ad, e, hb, hc⟩ := h.2 hn
    exact ⟨ad, e, hb, fun j u hu => (World.cell?_of_block (hg.block _ (by rw [block_of_add]; omega) (fun e2 => hA ad e (by injection e2 with e2; rw [block_of_add] at e2; exact e2)))).trans (hc j u hu)⟩⟩
theorem size_any (v : Value) (w : World) : Calls Try.prog 38 #[v] w fun e w' => e = .returned (.int .i64 16) ∧ w' = w := by
  go_enter Try.func38, Try.ntmps38
  go_wp2
  go_ret
  exact ⟨rfl, rfl⟩
set_option maxRecDepth 100000 in
set_option maxHeartbeats 8000000 in
theorem bmix_any (g c : Nat) (t : Value) (bs : List Value) (b o n cp : Nat) (B : Nat) (l : List UInt8) (w : World) (d : Dig w g c t bs 0 0) (hr : Reads w B 1 (some ⟨b, o, none⟩) n (u8s l)) (hn : n ≤ 5000) (hnc : n ≤ cp) (hbg : b ≠ g) (hB : B ≤ w.heap.size) :
    Calls Try.prog 40 #[.pointer (some ⟨g, 0, none⟩), .slice (some ⟨b, o, none⟩) n cp] w fun e w' => (∃ A' cs, e = .returned (.slice A' (n % 16) cs) ∧ Reads w' B 1 A' (n % 16) (u8s (l.drop (16 * (n / 16)))) ∧ (∀ ad, A' = some ad → ad.block = b)) ∧ Dig w' g c t bs (st l (n / 16)).1 (st l (n / 16)).2 ∧ w.grownBy w' (some g) := by
  have hln : l.length = n := by have := hr.1; rw [u8s_length] at this; omega
  have k20 := d.c20
  have k21 := d.c21
  have HD := Lib.hid d
  have HR := Lib.hid hr
  have HLN := Lib.hid hln
  have hn64 : n ≤ 9223372036854775807 := by omega
  clear d hr hln
  go_enter Try.func40, Try.ntmps40
  obtain ⟨q, hq⟩ : ∃ q, n / 16 = q := ⟨_, rfl⟩
  have eq1 : (n : Int) / 16 = (q : Int) := by omega
  have hqn : 16 * q ≤ n := by omega
  have HQ := Lib.hid hq
  go_wp2_with fail
  go_quiet (fail)
  go_wp2
  go_loopw [5, 6, 8] (fun sh sk si wr => ∃ (i h k m : Nat), i ≤ q ∧ si = .int .i64 i ∧ sh = .int .u64 h ∧ sk = .int .u64 k ∧ Hid (st l i = (h, k)) ∧ Hid (wr = w.drewN m)) (fun _ _ si _ => q - (intOf si).toNat)
  case atStart => exact ⟨0, 0, 0, _, Nat.zero_le _, rfl, rfl, rfl, rfl, rfl⟩
  case round =>
    obtain ⟨i, h, k, m, hi, rfl, rfl, rfl, HST, HWR⟩ := hrel
    have lh : h < 18446744073709551616 := by have := (st_lt l i).1; rw [HST.out] at this; exact this
    have lk : k < 18446744073709551616 := by have := (st_lt l i).2; rw [HST.out] at this; exact this
    by_cases hlt : i < q
    · have g1 : (i : Int) < (q : Int) := by omega
      have hdl : 16 ≤ (l.drop (i * 16)).length := by rw [List.length_drop]; have := HLN.out; omega
      obtain ⟨y0, y1, y2, y3, y4, y5, y6, y7, y8, y9, y10, y11, y12, y13, y14, y15, t', hd⟩ : ∃ y0 y1 y2 y3 y4 y5 y6 y7 y8 y9 y10 y11 y12 y13 y14 y15 t', l.drop (i * 16) = y0 :: y1 :: y2 :: y3 :: y4 :: y5 :: y6 :: y7 :: y8 :: y9 :: y10 :: y11 :: y12 :: y13 :: y14 :: y15 :: t' := by
        match hx : l.drop (i * 16), hdl with
        | [], h => simp at h
        | [_], h => simp at h
        | [_, _], h => simp at h
        | [_, _, _], h => simp at h
        | [_, _, _, _], h => simp at h
        | [_, _, _, _, _], h => simp at h
        | [_, _, _, _, _, _], h => simp at h
        | [_, _, _, _, _, _, _], h => simp at h
        | [_, _, _, _, _, _, _, _], h => simp at h
        | [_, _, _, _, _, _, _, _, _], h => simp at h
        | [_, _, _, _, _, _, _, _, _, _], h => simp at h
        | [_, _, _, _, _, _, _, _, _, _, _], h => simp at h
        | [_, _, _, _, _, _, _, _, _, _, _, _], h => simp at h
        | [_, _, _, _, _, _, _, _, _, _, _, _, _], h => simp at h
        | [_, _, _, _, _, _, _, _, _, _, _, _, _, _], h => simp at h
        | [_, _, _, _, _, _, _, _, _, _, _, _, _, _, _], h => simp at h
        | y0 :: y1 :: y2 :: y3 :: y4 :: y5 :: y6 :: y7 :: y8 :: y9 :: y10 :: y11 :: y12 :: y13 :: y14 :: y15 :: t', _ => exact ⟨y0, y1, y2, y3, y4, y5, y6, y7, y8, y9, y10, y11, y12, y13, y14, y15, t', rfl⟩
      have HS0 : Hid (Src wr b (o + i * 16) (y0 :: y1 :: y2 :: y3 :: y4 :: y5 :: y6 :: y7 :: y8 :: y9 :: y10 :: y11 :: y12 :: y13 :: y14 :: y15 :: t')) := by
        show Src _ _ _ _
        rw [← hd, HWR.out]
        exact (src_of HR.out).drop (i * 16)
      have HS1 : Hid (Src wr b (o + (i * 16 + 8)) (y8 :: y9 :: y10 :: y11 :: y12 :: y13 :: y14 :: y15 :: t')) := by
        show Src _ _ _ _
        rw [← Nat.add_assoc]
        exact HS0.out.drop 8
      obtain ⟨x, hx⟩ : ∃ x, leN [y0, y1, y2, y3, y4, y5, y6, y7] = x := ⟨_, rfl⟩
      obtain ⟨y, hy⟩ : ∃ y, leN [y8, y9, y10, y11, y12, y13, y14, y15] = y := ⟨_, rfl⟩
      have HX : Hid (leN ((l.drop (16 * i)).take 8) = x) := by show _ = _; rw [Nat.mul_comm, hd, ← hx]; rfl
      have HY : Hid (leN ((l.drop (16 * i + 8)).take 8) = y) := by show _ = _; rw [Nat.mul_comm, ← List.drop_drop, hd, ← hy]; rfl
      have LA : Hid (∀ W, Src W b (o + i * 16) (y0 :: y1 :: y2 :: y3 :: y4 :: y5 :: y6 :: y7 :: y8 :: y9 :: y10 :: y11 :: y12 :: y13 :: y14 :: y15 :: t') → Calls Try.prog 42 #[.slice (some ⟨b, o + i * 16, none⟩) (n - i * 16) (cp - i * 16)] W fun e w' => e = .returned (.int .u64 (x : Int)) ∧ ∃ k, w' = W.drewN k) := fun W hs => by
        have h := le64_any b (o + i * 16) (n - i * 16) (cp - i * 16) y0 y1 y2 y3 y4 y5 y6 y7 _ W hs (by omega) (by omega)
        rw [hx] at h
        exact h
      have LB : Hid (∀ W, Src W b (o + (i * 16 + 8)) (y8 :: y9 :: y10 :: y11 :: y12 :: y13 :: y14 :: y15 :: t') → Calls Try.prog 42 #[.slice (some ⟨b, o + (i * 16 + 8), none⟩) (n - (i * 16 + 8)) (cp - (i * 16 + 8))] W fun e w' => e = .returned (.int .u64 (y : Int)) ∧ ∃ k, w' = W.drewN k) := fun W hs => by
        have h := le64_any b (o + (i * 16 + 8)) (n - (i * 16 + 8)) (cp - (i * 16 + 8)) y8 y9 y10 y11 y12 y13 y14 y15 _ W hs (by omega) (by omega)
        rw [hy] at h
        exact h
      have lx : x < 18446744073709551616 := by rw [← hx]; exact leN_8 (by simp)
      have ly : y < 18446744073709551616 := by rw [← hy]; exact leN_8 (by simp)
      obtain ⟨a1, qa1⟩ : ∃ z, mulN x 9782798678568883157 = z := ⟨_, rfl⟩
      have la1 : a1 < 18446744073709551616 := by rw [← qa1]; exact mulN_lt _ _
      have ea1 := mulC qa1
      have Qa1 := Lib.hid qa1
      obtain ⟨a2, qa2⟩ : ∃ z, rotN a1 31 = z := ⟨_, rfl⟩
      have la2 : a2 < 18446744073709551616 := by rw [← qa2]; exact rotN_lt _ la1
      have ea2 := rot31 la1 qa2
      have Qa2 := Lib.hid qa2
      obtain ⟨a3, qa3⟩ : ∃ z, mulN a2 5545529020109919103 = z := ⟨_, rfl⟩
      have la3 : a3 < 18446744073709551616 := by rw [← qa3]; exact mulN_lt _ _
      have ea3 := mulD qa3
      have Qa3 := Lib.hid qa3
      obtain ⟨a4, qa4⟩ : ∃ z, h ^^^ a3 = z := ⟨_, rfl⟩
      have la4 : a4 < 18446744073709551616 := by rw [← qa4]; exact xor_lt lh la3
      have ea4 := xorI lh la3 qa4
      have Qa4 := Lib.hid qa4
      obtain ⟨a5, qa5⟩ : ∃ z, rotN a4 27 = z := ⟨_, rfl⟩
      have la5 : a5 < 18446744073709551616 := by rw [← qa5]; exact rotN_lt _ la4
      have ea5 := rot27 la4 qa5
      have Qa5 := Lib.hid qa5
      obtain ⟨a6, qa6⟩ : ∃ z, addN a5 k = z := ⟨_, rfl⟩
      have la6 : a6 < 18446744073709551616 := by rw [← qa6]; exact addN_lt _ _
      have ea6 := addI qa6
      have Qa6 := Lib.hid qa6
      obtain ⟨a7, qa7⟩ : ∃ z, mulN a6 5 = z := ⟨_, rfl⟩
      have la7 : a7 < 18446744073709551616 := by rw [← qa7]; exact mulN_lt _ _
      have ea7 := mul5 qa7
      have Qa7 := Lib.hid qa7
      obtain ⟨a8, qa8⟩ : ∃ z, addN a7 1390208809 = z := ⟨_, rfl⟩
      have la8 : a8 < 18446744073709551616 := by rw [← qa8]; exact addN_lt _ _
      have ea8 := addA qa8
      have Qa8 := Lib.hid qa8
      obtain ⟨b1, qb1⟩ : ∃ z, mulN y 5545529020109919103 = z := ⟨_, rfl⟩
      have lb1 : b1 < 18446744073709551616 := by rw [← qb1]; exact mulN_lt _ _
      have eb1 := mulD qb1
      have Qb1 := Lib.hid qb1
      obtain ⟨b2, qb2⟩ : ∃ z, rotN b1 33 = z := ⟨_, rfl⟩
      have lb2 : b2 < 18446744073709551616 := by rw [← qb2]; exact rotN_lt _ lb1
      have eb2 := rot33 lb1 qb2
      have Qb2 := Lib.hid qb2
      obtain ⟨b3, qb3⟩ : ∃ z, mulN b2 9782798678568883157 = z := ⟨_, rfl⟩
      have lb3 : b3 < 18446744073709551616 := by rw [← qb3]; exact mulN_lt _ _
      have eb3 := mulC qb3
      have Qb3 := Lib.hid qb3
      obtain ⟨b4, qb4⟩ : ∃ z, k ^^^ b3 = z := ⟨_, rfl⟩
      have lb4 : b4 < 18446744073709551616 := by rw [← qb4]; exact xor_lt lk lb3
      have eb4 := xorI lk lb3 qb4
      have Qb4 := Lib.hid qb4
      obtain ⟨b5, qb5⟩ : ∃ z, rotN b4 31 = z := ⟨_, rfl⟩
      have lb5 : b5 < 18446744073709551616 := by rw [← qb5]; exact rotN_lt _ lb4
      have eb5 := rot31 lb4 qb5
      have Qb5 := Lib.hid qb5
      obtain ⟨b6, qb6⟩ : ∃ z, addN b5 a8 = z := ⟨_, rfl⟩
      have lb6 : b6 < 18446744073709551616 := by rw [← qb6]; exact addN_lt _ _
      have eb6 := addI qb6
      have Qb6 := Lib.hid qb6
      obtain ⟨b7, qb7⟩ : ∃ z, mulN b6 5 = z := ⟨_, rfl⟩
      have lb7 : b7 < 18446744073709551616 := by rw [← qb7]; exact mulN_lt _ _
      have eb7 := mul5 qb7
      have Qb7 := Lib.hid qb7
      obtain ⟨b8, qb8⟩ : ∃ z, addN b7 944331445 = z := ⟨_, rfl⟩
      have lb8 : b8 < 18446744073709551616 := by rw [← qb8]; exact addN_lt _ _
      have eb8 := addB qb8
      have Qb8 := Lib.hid qb8
      have hH : Hid (stepH h k x = a8) := by show _ = _; rw [stepH, qa1, qa2, qa3, qa4, qa5, qa6, qa7, qa8]
      have hK : Hid (stepK a8 k y = b8) := by show _ = _; rw [stepK, qb1, qb2, qb3, qb4, qb5, qb6, qb7, qb8]
      have Ma1 := Lib.hid la1
      have Ma2 := Lib.hid la2
      have Ma3 := Lib.hid la3
      have Ma4 := Lib.hid la4
      have Ma5 := Lib.hid la5
      have Ma6 := Lib.hid la6
      have Ma7 := Lib.hid la7
      have Ma8 := Lib.hid la8
      have Mb1 := Lib.hid lb1
      have Mb2 := Lib.hid lb2
      have Mb3 := Lib.hid lb3
      have Mb4 := Lib.hid lb4
      have Mb5 := Lib.hid lb5
      have Mb6 := Lib.hid lb6
      have Mb7 := Lib.hid lb7
      have Mb8 := Lib.hid lb8
      clear qa1 qa2 qa3 qa4 qa5 qa6 qa7 qa8 qb1 qb2 qb3 qb4 qb5 qb6 qb7 qb8 lh lk la1 la2 la3 la4 la5 la6 la7 la8 lb1 lb2 lb3 lb4 lb5 lb6 lb7 lb8
      clear hx hy hd hdl lx ly
      go_wp2_with fail
      go_quiet (first | (go_at_call 42; with_reducible refine Calls.quiet_of (LA.out _ (HS0.out.drewN _))) | (go_at_call 42; with_reducible refine Calls.quiet_of (LB.out _ (HS1.out.drewN _))))
      go_wp2
      refine ⟨⟨i + 1, a8, b8, m + nq, by omega, by go_num, rfl, rfl, st_next HST.out HX.out HY.out hH.out hK.out, by show _ = _; rw [HWR.out]; simp [World.drewN, Nat.add_assoc]⟩, by simp [intOf]; omega⟩
    · have hiq : i = q := by omega
      have HST2 : Hid (st l q = (h, k)) := by show _ = _; rw [← hiq]; exact HST.out
      have HDr : Hid (Dig wr g c t bs 0 0) := by show Dig _ _ _ _ _ _ _; rw [HWR.out]; exact HD.out.drewN m
      have g1 : ¬ (i : Int) < (q : Int) := by omega
      have r20 := HDr.out.c20
      have r21 := HDr.out.c21
      have f20 := HDr.out.blk.frozen 20
      have f21 := HDr.out.blk.frozen 21
      have HD2 := Lib.hid ((HDr.out.set20 h).set21 k)
      have HO2 : Hid (w.grownBy ((wr.setCell ⟨g, 20, none⟩ (.int .u64 h)).setCell ⟨g, 21, none⟩ (.int .u64 k)) (some g)) := by
        show World.grownBy _ _ _
        rw [HWR.out]
        exact only_trans (only_drewN (World.grownBy.refl w _) m) (only_trans (only_set _ g 20 _) (only_set _ g 21 _))
      have HRC := Lib.hid (cut_src HR.out (k := q * 16) (by omega) hnc)
      have hnq : n - q * 16 = n % 16 := by omega
      have HNQ := Lib.hid hnq
      have HLD : Hid (l.drop (q * 16) = l.drop (16 * (n / 16))) := by show _ = _; rw [HQ.out, Nat.mul_comm]
      clear hiq hlt lh lk hnq
      by_cases hcp : cp = q * 16
      · have g2 : (cp : Int) = (q : Int) * 16 := by omega
        go_wp2_with (first | (go_at_call 38; refine (size_any _ _).mono ?_; rintro e w2 ⟨rfl, rfl⟩) | fail)
        go_ret
        refine ⟨⟨(some ⟨b, o, none⟩), (q * 16 - q * 16), by rw [← HNQ.out]; rfl, ?_⟩, ?_, HO2.out⟩
        · have hr2 := HRC.out.past HO2.out hB (fun ad e => by rw [if_pos hcp] at e; injection e with e; subst e; exact hbg)
          rw [if_pos hcp, HNQ.out, HLD.out] at hr2
          exact ⟨hr2, fun ad e => by injection e with e; subst e; rfl⟩
        · rw [HQ.out, HST2.out]
          exact HD2.out
      · go_wp2_with (first | (go_at_call 38; refine (size_any _ _).mono ?_; rintro e w2 ⟨rfl, rfl⟩) | fail)
        go_ret
        refine ⟨⟨(some ⟨b, o + q * 16, none⟩), (cp - q * 16), by rw [← HNQ.out]; rfl, ?_⟩, ?_, HO2.out⟩
        · have hr2 := HRC.out.past HO2.out hB (fun ad e => by rw [if_neg hcp] at e; injection e with e; subst e; exact hbg)
          rw [if_neg hcp, HNQ.out, HLD.out] at hr2
          exact ⟨hr2, fun ad e => by injection e with e; subst e; rfl⟩
        · rw [HQ.out, HST2.out]
          exact HD2.out
end Go.Proofs.Ytodffcoeimcdaaa
