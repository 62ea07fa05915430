/- murmur3: Sum128 for any tail; Write. -/
import Derived.Test.YtodffcoeimcdaaaMmHa
import Derived.Test.YtodffcoeimcdaaaMmHb
import Derived.Test.YtodffcoeimcdaaaMmHc
import Derived.Test.YtodffcoeimcdaaaMmHd
import Derived.RegionTactic
import Derived.Deep.Cut
namespace Go.Proofs.Ytodffcoeimcdaaa
open Go.RowKit Go.Lib

theorem sum128_any (g n h k : Nat) (bs : List Value) (w : World) (ts : List UInt8) (d : Dig w g n (.slice (some ⟨g, 2, none⟩) ts.length 16) bs h k) (hs : Src w g 2 ts) (ht : ts.length < 16) (hn : n ≤ 5000) (lh : h < 18446744073709551616) (lk : k < 18446744073709551616) :
    Calls Try.prog 36 #[.pointer (some ⟨g, 0, none⟩)] w fun e w' => (∃ v, e = .returned (.tuple #[.int .u64 ((lastN (tailH h ts) (tailK k ts) n : Nat) : Int), v])) ∧ ∃ k, w' = w.drewN k := by
  match ts, ht, d, hs with
  | [], _, d, hs => exact sum_0 g n h k bs w d hn lh lk
  | [y0], _, d, hs => exact sum_1 g n h k bs y0 w d hn lh lk (hs 0 _ rfl)
  | [y0, y1], _, d, hs => exact sum_2 g n h k bs y0 y1 w d hn lh lk (hs 0 _ rfl) (hs 1 _ rfl)
  | [y0, y1, y2], _, d, hs => exact sum_3 g n h k bs y0 y1 y2 w d hn lh lk (hs 0 _ rfl) (hs 1 _ rfl) (hs 2 _ rfl)
  | [y0, y1, y2, y3], _, d, hs => exact sum_4 g n h k bs y0 y1 y2 y3 w d hn lh lk (hs 0 _ rfl) (hs 1 _ rfl) (hs 2 _ rfl) (hs 3 _ rfl)
  | [y0, y1, y2, y3, y4], _, d, hs => exact sum_5 g n h k bs y0 y1 y2 y3 y4 w d hn lh lk (hs 0 _ rfl) (hs 1 _ rfl) (hs 2 _ rfl) (hs 3 _ rfl) (hs 4 _ rfl)
  | [y0, y1, y2, y3, y4, y5], _, d, hs => exact sum_6 g n h k bs y0 y1 y2 y3 y4 y5 w d hn lh lk (hs 0 _ rfl) (hs 1 _ rfl) (hs 2 _ rfl) (hs 3 _ rfl) (hs 4 _ rfl) (hs 5 _ rfl)
  | [y0, y1, y2, y3, y4, y5, y6], _, d, hs => exact sum_7 g n h k bs y0 y1 y2 y3 y4 y5 y6 w d hn lh lk (hs 0 _ rfl) (hs 1 _ rfl) (hs 2 _ rfl) (hs 3 _ rfl) (hs 4 _ rfl) (hs 5 _ rfl) (hs 6 _ rfl)
  | [y0, y1, y2, y3, y4, y5, y6, y7], _, d, hs => exact sum_8 g n h k bs y0 y1 y2 y3 y4 y5 y6 y7 w d hn lh lk (hs 0 _ rfl) (hs 1 _ rfl) (hs 2 _ rfl) (hs 3 _ rfl) (hs 4 _ rfl) (hs 5 _ rfl) (hs 6 _ rfl) (hs 7 _ rfl)
  | [y0, y1, y2, y3, y4, y5, y6, y7, y8], _, d, hs => exact sum_9 g n h k bs y0 y1 y2 y3 y4 y5 y6 y7 y8 w d hn lh lk (hs 0 _ rfl) (hs 1 _ rfl) (hs 2 _ rfl) (hs 3 _ rfl) (hs 4 _ rfl) (hs 5 _ rfl) (hs 6 _ rfl) (hs 7 _ rfl) (hs 8 _ rfl)
  | [y0, y1, y2, y3, y4, y5, y6, y7, y8, y9], _, d, hs => exact sum_10 g n h k bs y0 y1 y2 y3 y4 y5 y6 y7 y8 y9 w d hn lh lk (hs 0 _ rfl) (hs 1 _ rfl) (hs 2 _ rfl) (hs 3 _ rfl) (hs 4 _ rfl) (hs 5 _ rfl) (hs 6 _ rfl) (hs 7 _ rfl) (hs 8 _ rfl) (hs 9 _ rfl)
  | [y0, y1, y2, y3, y4, y5, y6, y7, y8, y9, y10], _, d, hs => exact sum_11 g n h k bs y0 y1 y2 y3 y4 y5 y6 y7 y8 y9 y10 w d hn lh lk (hs 0 _ rfl) (hs 1 _ rfl) (hs 2 _ rfl) (hs 3 _ rfl) (hs 4 _ rfl) (hs 5 _ rfl) (hs 6 _ rfl) (hs 7 _ rfl) (hs 8 _ rfl) (hs 9 _ rfl) (hs 10 _ rfl)
  | [y0, y1, y2, y3, y4, y5, y6, y7, y8, y9, y10, y11], _, d, hs => exact sum_12 g n h k bs y0 y1 y2 y3 y4 y5 y6 y7 y8 y9 y10 y11 w d hn lh lk (hs 0 _ rfl) (hs 1 _ rfl) (hs 2 _ rfl) (hs 3 _ rfl) (hs 4 _ rfl) (hs 5 _ rfl) (hs 6 _ rfl) (hs 7 _ rfl) (hs 8 _ rfl) (hs 9 _ rfl) (hs 10 _ rfl) (hs 11 _ rfl)
  | [y0, y1, y2, y3, y4, y5, y6, y7, y8, y9, y10, y11, y12], _, d, hs => exact sum_13 g n h k bs y0 y1 y2 y3 y4 y5 y6 y7 y8 y9 y10 y11 y12 w d hn lh lk (hs 0 _ rfl) (hs 1 _ rfl) (hs 2 _ rfl) (hs 3 _ rfl) (hs 4 _ rfl) (hs 5 _ rfl) (hs 6 _ rfl) (hs 7 _ rfl) (hs 8 _ rfl) (hs 9 _ rfl) (hs 10 _ rfl) (hs 11 _ rfl) (hs 12 _ rfl)
  | [y0, y1, y2, y3, y4, y5, y6, y7, y8, y9, y10, y11, y12, y13], _, d, hs => exact sum_14 g n h k bs y0 y1 y2 y3 y4 y5 y6 y7 y8 y9 y10 y11 y12 y13 w d hn lh lk (hs 0 _ rfl) (hs 1 _ rfl) (hs 2 _ rfl) (hs 3 _ rfl) (hs 4 _ rfl) (hs 5 _ rfl) (hs 6 _ rfl) (hs 7 _ rfl) (hs 8 _ rfl) (hs 9 _ rfl) (hs 10 _ rfl) (hs 11 _ rfl) (hs 12 _ rfl) (hs 13 _ rfl)
  | [y0, y1, y2, y3, y4, y5, y6, y7, y8, y9, y10, y11, y12, y13, y14], _, d, hs => exact sum_15 g n h k bs y0 y1 y2 y3 y4 y5 y6 y7 y8 y9 y10 y11 y12 y13 y14 w d hn lh lk (hs 0 _ rfl) (hs 1 _ rfl) (hs 2 _ rfl) (hs 3 _ rfl) (hs 4 _ rfl) (hs 5 _ rfl) (hs 6 _ rfl) (hs 7 _ rfl) (hs 8 _ rfl) (hs 9 _ rfl) (hs 10 _ rfl) (hs 11 _ rfl) (hs 12 _ rfl) (hs 13 _ rfl) (hs 14 _ rfl)
  | _ :: _ :: _ :: _ :: _ :: _ :: _ :: _ :: _ :: _ :: _ :: _ :: _ :: _ :: _ :: _ :: _, ht, _, _ => exact absurd ht (by simp)
theorem wp_hold {P : Program} {c : Code} {Q : Exit → Act → World → Prop} {a : Act} {w : World} {X : Prop} (h1 : Hid X → c.wp P Q a w) (h2 : X) : c.wp P Q a w := h1 (Lib.hid h2)
theorem splice_dig (g n : Nat) (t : Value) (h k : Nat) (xs : List Value) (hx : xs.length ≤ 16) : splice (drow g n t zer h k) 2 xs = drow g n t (xs ++ zer.drop xs.length) h k := by
  have e1 : (drow g n t zer h k).take 2 = [.int .i64 n, t] := rfl
  have e2 : (drow g n t zer h k).drop (2 + xs.length) = zer.drop xs.length ++ [.int .u32 0, .iface 42 (.pointer (some ⟨g, 0, none⟩)), .int .u64 h, .int .u64 k] := by
    rw [Nat.add_comm]
    show List.drop xs.length (zer ++ _) = _
    rw [List.drop_append_of_le_length (by simp [zer]; exact hx)]
  rw [splice, e1, e2]
  simp [drow]
theorem copy_dig (g n h k B r cs B0 : Nat) (t : Value) (A' : Option Addr) (T : List UInt8) (w w0 : World) (d : Dig w g n t zer h k) (hr : Reads w B 1 A' r (u8s T)) (hrT : T.length = r) (hr16 : r < 16) (hb : Below B0 w0 w) (hg : B0 ≤ g) :
    ∃ w4, (Builtin.copy_ #[23, 23] 3 #[.slice (some ⟨g, 2, none⟩) 16 16, .slice A' r cs]).run Try.prog w = .ok (.int .i64 (r : Nat)) w4 ∧ Dig w4 g n t (u8s T ++ zer.drop (u8s T).length) h k ∧ Below B0 w0 w4 := by
  have hl : (u8s T ++ zer.drop (u8s T).length).length = 16 := by simp [zer, u8s_length]; omega
  rcases Nat.eq_zero_or_pos r with h0 | h0
  · subst h0
    obtain rfl : T = [] := List.length_eq_zero_iff.1 hrT
    exact ⟨w, run_copy_none w _ _ _ 5 _ _ _ _ _ _ Try.underlying23 (by kernel_rfl) rfl, ⟨d.blk, by simp [zer, u8s]⟩, hb⟩
  · obtain ⟨ad, rfl, _, hc⟩ := hr.2 h0
    have hrun := run_copy_row (P := Try.prog) w 23 23 3 5 g 2 16 16 ad r cs (dcells g n t zer h k) 52 (u8s T) Try.underlying23 (by kernel_rfl) d.blk (by rw [u8s_length, hrT]; exact (Nat.min_eq_left (by omega)).symm) hc (by rw [u8s_length, hrT]; simp [dcells, drow, zer]; omega) (u8s_one T)
    have hs := splice_dig g n t h k (u8s T) (by rw [u8s_length]; omega)
    unfold splice at hs
    have e : (List.take 2 (dcells g n t zer h k).toList ++ u8s T ++ List.drop (2 + (u8s T).length) (dcells g n t zer h k).toList).toArray = dcells g n t (u8s T ++ zer.drop (u8s T).length) h k := by
      rw [dcells, dcells, ← hs, List.append_assoc]
    have e2 : goInt ((u8s T).length : Nat) = .int .i64 (r : Nat) := by rw [u8s_length, hrT]; rfl
    rw [e, e2] at hrun
    exact ⟨_, hrun, ⟨setRow_heap w g _ _ _ _ d.blk, hl⟩, below_setRow hb hg _⟩
set_option maxRecDepth 100000 in
set_option maxHeartbeats 8000000 in
theorem write_any (g b o n cp B B0 : Nat) (l : List UInt8) (w w0 : World) (d : Dig w g 0 (.slice none 0 0) zer 0 0) (hr : Reads w B 1 (some ⟨b, o, none⟩) n (u8s l)) (hn : n ≤ 5000) (hnc : n ≤ cp) (hbg : b ≠ g) (hB : B ≤ w.heap.size) (hb : Below B0 w0 w) (hg : B0 ≤ g) :
    Calls Try.prog 35 #[.pointer (some ⟨g, 0, none⟩), .slice (some ⟨b, o, none⟩) n cp] w fun e w' => (∃ v, e = .returned v) ∧ (∃ bs, Dig w' g n (.slice (some ⟨g, 2, none⟩) (n % 16) 16) bs (st l (n / 16)).1 (st l (n / 16)).2) ∧ Src w' g 2 (l.drop (16 * (n / 16))) ∧ Below B0 w0 w' := by
  have k0 := d.c0
  have k1 := d.c1
  have k19 := d.c19
  have f0 := d.blk.frozen 0
  have hm : ∀ W : World, (Go.method 176 42 (.pointer (some ⟨g, 0, none⟩)) "pub-tholos/pub/murmur3.bmix").run Try.prog W = .ok (40, .pointer (some ⟨g, 0, none⟩)) W := fun W => by kernel_rfl
  have HD := Lib.hid (d.set0 n)
  have HO := Lib.hid (only_set w g 0 (.int .i64 (n : Nat)))
  have HR : Hid (Reads (w.setCell ⟨g, 0, none⟩ (.int .i64 (n : Nat))) B 1 (some ⟨b, o, none⟩) n (u8s l)) := hr.past HO.out hB (fun ad e => by injection e with e; subst e; exact hbg)
  have hB1 : B ≤ (w.setCell ⟨g, 0, none⟩ (.int .i64 (n : Nat))).heap.size := by simpa [World.setCell] using hB
  have HM := Lib.hid (bmix_any g n (.slice none 0 0) zer b o n cp B l _ HD.out HR.out hn hnc hbg hB1)
  have HB1 := Lib.hid (hb.setCell (p := ⟨g, 0, none⟩) hg (.int .i64 (n : Nat)))
  have hgs : B0 ≤ (w.setCell ⟨g, 0, none⟩ (.int .i64 (n : Nat))).heap.size := Nat.le_trans hg (Nat.le_of_lt HD.out.blk.lt)
  clear d hr hb
  go_enter Try.func35, Try.ntmps35
  go_upto_region 11 with (first | (go_at_call 40; refine HM.out.mono ?_; clear HM; rintro e w2 ⟨⟨A', cs, rfl, hr2, hab⟩, hd2, ho2⟩; have HR2 := Lib.hid hr2; have HAB := Lib.hid hab; have HD2 := Lib.hid hd2; have HB2 := Lib.hid (HB1.out.grown ho2 hgs (fun k e => by injection e with e; omega)); have j1 := hd2.c1; have j2 := hd2.blk.frozen 1; have hB2 : B ≤ w2.heap.size := Nat.le_trans hB1 ho2.size; clear hr2 hab hd2 ho2) | fail)
  have HD3 := Lib.hid (HD2.out.set1 (.slice A' (n % 16) cs))
  have HO3 := Lib.hid (only_set w2 g 1 (.slice A' (n % 16) cs))
  have HB3 := Lib.hid (HB2.out.setCell (p := ⟨g, 1, none⟩) hg (.slice A' (n % 16) cs))
  have HR3 := Lib.hid (HR2.out.past HO3.out hB2 (fun ad e => by rw [HAB.out ad e]; exact hbg))
  clear j1 j2 HD2 HB2 HO3 k0 k1 k19 f0 HD HO HR HB1
  generalize w2.setCell ⟨g, 1, none⟩ (.slice A' (n % 16) cs) = w3 at HD3 HB3 HR3 ⊢
  obtain ⟨r, hrr⟩ : ∃ r, n % 16 = r := ⟨_, rfl⟩
  have hr16 : r < 16 := by omega
  have hT : Hid ((l.drop (16 * (n / 16))).length = r) := by have h := HR3.out.1; rw [u8s_length] at h; show _ = _; omega
  rw [hrr] at HD3 HR3 ⊢
  have HRR := Lib.hid hrr
  obtain ⟨T, hTT⟩ : ∃ T, l.drop (16 * (n / 16)) = T := ⟨_, rfl⟩
  rw [hTT] at hT HR3
  have HTT := Lib.hid hTT
  clear hTT
  obtain ⟨w4, hcpy, hd4, hb4⟩ := copy_dig g n _ _ B r cs B0 (.slice A' r cs) A' T w3.drew w0 HD3.out.drew (show Reads w3.drew B 1 A' r (u8s T) from HR3.out) hT.out hr16 HB3.out.drew hg
  have HD4 := Lib.hid hd4
  have HB4 := Lib.hid hb4
  clear hd4 hb4
  have q1 := HD3.out.c1
  clear hrr
  go_cut [8] from 72 (fun s8 wx => s8 = .int .i64 r ∧ Hid (Dig wx g n (.slice A' r cs) (u8s T ++ zer.drop (u8s T).length) (st l (n / 16)).1 (st l (n / 16)).2) ∧ Hid (Below B0 w0 wx))
  case first =>
    apply wp_hold
    · intro hX
      go_region
      exact hX.out
    go_wp2
    go_meet
    case rel => exact ⟨rfl, HD4.out, HB4.out⟩
  case rest =>
    obtain ⟨rfl, HD5, HB5⟩ := hcut
    have z1 := HD5.out.c1
    have z2 := HD5.out.blk.frozen 1
    have z3 : (r : Int) ≤ 16 := by omega
    have HD6 := Lib.hid (HD5.out.set1 (.slice (some ⟨g, 2, none⟩) r 16))
    have HB6 := Lib.hid (HB5.out.setCell (p := ⟨g, 1, none⟩) hg (.slice (some ⟨g, 2, none⟩) r 16))
    clear hcpy
    go_wp2
    go_ret2
    refine ⟨⟨_, rfl⟩, ⟨_, by rw [HRR.out]; exact HD6.out⟩, fun j y hj => ?_, HB6.out⟩
    rw [HTT.out] at hj
    have hj2 : j < T.length := (List.getElem?_eq_some_iff.1 hj).1
    rw [HD6.out.blk.cell, dcells_buf HD6.out.len j (by have := hT.out; omega), List.getElem?_append_left (by rw [u8s_length]; exact hj2), u8s_at _ _ hj2, (List.getElem?_eq_some_iff.1 hj).2]
end Go.Proofs.Ytodffcoeimcdaaa
