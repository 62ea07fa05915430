/- slices.EqualFunc over two rows of the same pairs of changes. -/
import Derived.Test.YtijbdinemjiepaaDoorDfH2
namespace Go.Proofs.YtijbdinemjiepaaDoor
open Go.RowKit

/-- A pair of a row of pairs, as a later world has it. -/
theorem DRow.pair {w W : World} {B n : Nat} {A : Option Addr} {xs : List Value} {g : Option Nat} {ds : List Dif} (hx : Reads w B 8 A n xs) (hB : B ≤ w.heap.size) (hd : DRow w g ds xs) (hW : Below w.heap.size w W) {j : Nat} (hj : j < n) :
    ∃ b o d e, ds[2 * j]? = some d ∧ ds[2 * j + 1]? = some e ∧ A = some ⟨b, o, none⟩ ∧ b < B ∧
      (∃ A1 c1 A2 c2, (W.cell? ⟨b, o + j * 8, none⟩ = some (.int .i64 (d.ty : Nat)) ∧ W.cell? ⟨b, o + j * 8 + 1, none⟩ = some (.string d.path) ∧ W.cell? ⟨b, o + j * 8 + 2, none⟩ = some (.slice A1 (identB d.bef).length c1) ∧ W.cell? ⟨b, o + j * 8 + 3, none⟩ = some (.slice A2 (identB d.aft).length c2)) ∧
      ((identB d.bef).length ≤ c1 ∧ (identB d.aft).length ≤ c2) ∧ Reads W w.heap.size 1 A1 (identB d.bef).length (u8s (identB d.bef)) ∧ Reads W w.heap.size 1 A2 (identB d.aft).length (u8s (identB d.aft))) ∧
      (∃ A1 c1 A2 c2, (W.cell? ⟨b, o + j * 8 + 4, none⟩ = some (.int .i64 (e.ty : Nat)) ∧ W.cell? ⟨b, o + j * 8 + 5, none⟩ = some (.string e.path) ∧ W.cell? ⟨b, o + j * 8 + 6, none⟩ = some (.slice A1 (identB e.bef).length c1) ∧ W.cell? ⟨b, o + j * 8 + 7, none⟩ = some (.slice A2 (identB e.aft).length c2)) ∧
      ((identB e.bef).length ≤ c1 ∧ (identB e.aft).length ≤ c2) ∧ Reads W w.heap.size 1 A1 (identB e.bef).length (u8s (identB e.bef)) ∧ Reads W w.heap.size 1 A2 (identB e.aft).length (u8s (identB e.aft))) := by
  have hl := hd.length
  have hx4 : Reads w B 4 A (2 * n) xs := ⟨by have := hx.1; omega, fun hn => hx.2 (by omega)⟩
  have hlen : ds.length = 2 * n := by have := hx.1; omega
  obtain ⟨b, o, A1, c1, A2, c2, e1, hb, ⟨k0, k1, k2, k3⟩, rest⟩ := hd.cells hx4 hB hW (j := 2 * j) (d := ds[2 * j]'(by omega)) (List.getElem?_eq_getElem (by omega))
  obtain ⟨b', o', D1, f1, D2, f2, e2, hb', ⟨m0, m1, m2, m3⟩, rest'⟩ := hd.cells hx4 hB hW (j := 2 * j + 1) (d := ds[2 * j + 1]'(by omega)) (List.getElem?_eq_getElem (by omega))
  obtain ⟨rfl, rfl⟩ : b' = b ∧ o' = o := by rw [e1] at e2; injection e2 with e2; injection e2 with h1 h2; exact ⟨h1.symm, h2.symm⟩
  have s : ∀ i, o' + 2 * j * 4 + i = o' + j * 8 + i := fun i => by omega
  have s' : ∀ i, o' + (2 * j + 1) * 4 + i = o' + j * 8 + (4 + i) := fun i => by omega
  refine ⟨b', o', _, _, List.getElem?_eq_getElem (by omega), List.getElem?_eq_getElem (by omega), e1, hb, ⟨A1, c1, A2, c2, ⟨?_, ?_, ?_, ?_⟩, rest⟩, ⟨D1, f1, D2, f2, ⟨?_, ?_, ?_, ?_⟩, rest'⟩⟩
  · have := s 0; simp only [Nat.add_zero] at this; rw [this] at k0; exact k0
  · rw [s 1] at k1; exact k1
  · rw [s 2] at k2; exact k2
  · rw [s 3] at k3; exact k3
  · have := s' 0; simp only [Nat.add_zero] at this; rw [this] at m0; exact m0
  · rw [s' 1] at m1; exact m1
  · rw [s' 2] at m2; exact m2
  · rw [s' 3] at m3; exact m3
set_option maxRecDepth 100000 in
set_option maxHeartbeats 4000000 in
theorem samePair_any (ty ty' : Nat) (P P' : ByteArray) (l1 l2 l3 l4 : List UInt8) (A1 A2 A3 A4 E1 E2 E3 E4 : Option Addr) (n1 n2 n3 n4 c1 c2 c3 c4 e1 e2 e3 e4 : Nat) (w : World)
    (h1 : Reads w w.heap.size 1 A1 n1 (u8s l1)) (h2 : Reads w w.heap.size 1 A2 n2 (u8s l2)) (h3 : Reads w w.heap.size 1 A3 n3 (u8s l3)) (h4 : Reads w w.heap.size 1 A4 n4 (u8s l4)) (g1 : Reads w w.heap.size 1 E1 n1 (u8s l1)) (g2 : Reads w w.heap.size 1 E2 n2 (u8s l2)) (g3 : Reads w w.heap.size 1 E3 n3 (u8s l3)) (g4 : Reads w w.heap.size 1 E4 n4 (u8s l4)) :
    Calls Tryd.prog 13 #[.agg #[.int .i64 ty, .string P, .slice A1 n1 c1, .slice A2 n2 c2, .int .i64 ty', .string P', .slice A3 n3 c3, .slice A4 n4 c4], .agg #[.int .i64 ty, .string P, .slice E1 n1 e1, .slice E2 n2 e2, .int .i64 ty', .string P', .slice E3 n3 e3, .slice E4 n4 e4]] w fun e w' => e = .returned (.bool true) ∧ Below w.heap.size w w' := by
  have mv : ∀ {W : World} {A : Option Addr} {n : Nat} {l : List Value}, Reads w w.heap.size 1 A n l → Below w.heap.size w W → Reads W W.heap.size 1 A n l := fun h hb => (h.below hb).more hb.size
  have HB := Lib.hid (below_alloc (below_one w (.cells #[.int .i64 ty, .string P, .slice A1 n1 c1, .slice A2 n2 c2, .int .i64 ty', .string P', .slice A3 n3 c3, .slice A4 n4 c4] 35)) (.cells #[.int .i64 ty, .string P, .slice E1 n1 e1, .slice E2 n2 e2, .int .i64 ty', .string P', .slice E3 n3 e3, .slice E4 n4 e4] 35))
  have R1 := Lib.hid (fun W (hb : Below w.heap.size w W) => sameDiff_any ty P l1 l2 A1 A2 E1 E2 n1 n2 c1 c2 e1 e2 W (mv h1 hb) (mv h2 hb) (mv g1 hb) (mv g2 hb))
  have R2 := Lib.hid (fun W (hb : Below w.heap.size w W) => sameDiff_any ty' P' l3 l4 A3 A4 E3 E4 n3 n4 c3 c4 e3 e4 W (mv h3 hb) (mv h4 hb) (mv g3 hb) (mv g4 hb))
  have b1 := Blk.new w 35 #[.int .i64 ty, .string P, .slice A1 n1 c1, .slice A2 n2 c2, .int .i64 ty', .string P', .slice A3 n3 c3, .slice A4 n4 c4]
  have B1 := Lib.hid (b1.alloc (.cells #[.int .i64 ty, .string P, .slice E1 n1 e1, .slice E2 n2 e2, .int .i64 ty', .string P', .slice E3 n3 e3, .slice E4 n4 e4] 35))
  have B2 := Lib.hid (Blk.new (w.alloc (.cells #[.int .i64 ty, .string P, .slice A1 n1 c1, .slice A2 n2 c2, .int .i64 ty', .string P', .slice A3 n3 c3, .slice A4 n4 c4] 35)) 35 #[.int .i64 ty, .string P, .slice E1 n1 e1, .slice E2 n2 e2, .int .i64 ty', .string P', .slice E3 n3 e3, .slice E4 n4 e4])
  clear h1 h2 h3 h4 g1 g2 g3 g4 mv b1
  go_enter Tryd.func13, Tryd.ntmps13
  go_wp2_with (first | (go_at_call 11; (with_reducible refine (R1.out _ HB.out).mono ?_); rintro e w1 ⟨rfl, hb⟩; have q1 := B1.out.below hb (by simp; omega); have q2 := B2.out.below hb (by simp); have k4 := q1.cell 4; have k5 := q1.cell 5; have k6 := q1.cell 6; have k7 := q1.cell 7; have m4 := q2.cell 4; have m5 := q2.cell 5; have m6 := q2.cell 6; have m7 := q2.cell 7; simp only [World.size_alloc] at m4 m5 m6 m7; have hs1 := hb.size; simp at hs1; have s1 : w.heap.size < w1.heap.size := (by omega); have s2 : w.heap.size + 1 < w1.heap.size := (by omega); have HB1 := Lib.hid (below_then HB.out (by simp; omega) hb); clear q1 q2 hb hs1) | (go_at_call 11; (with_reducible refine (R2.out _ HB1.out).mono ?_); rintro e w2 ⟨rfl, hb⟩; have HB2 := Lib.hid (below_then HB1.out HB1.out.size hb); clear hb) | fail)
  go_ret
  exact ⟨rfl, HB2.out⟩
set_option maxRecDepth 100000 in
set_option maxHeartbeats 4000000 in
theorem equalPairs_any (A1 A2 : Option Addr) (c1 c2 n B1 B2 : Nat) (ds : List Dif) (xs ys : List Value) (g1 g2 : Option Nat) (w : World) (hx : Reads w B1 8 A1 n xs) (hB1 : B1 ≤ w.heap.size) (hy : Reads w B2 8 A2 n ys) (hB2 : B2 ≤ w.heap.size) (dx : DRow w g1 ds xs) (dy : DRow w g2 ds ys) (hn2 : n ≤ 100000) :
    Calls Tryd.prog 12 #[.slice A1 n c1, .slice A2 n c2, .func (.func 13) #[] #[]] w fun e w' => e = .returned (.bool true) ∧ Below w.heap.size w w' := by
  have HX := Lib.hid hx
  have HY := Lib.hid hy
  have DX := Lib.hid dx
  have DY := Lib.hid dy
  clear hx hy dx dy
  go_enter Tryd.func12, Tryd.ntmps12
  go_wp2
  go_loopw [17] (fun si wr => ∃ j : Nat, j ≤ n ∧ si = .int .i64 j ∧ Hid (Below w.heap.size w wr)) (fun si _ => n - (intOf si).toNat)
  case atStart => exact ⟨0, Nat.zero_le _, rfl, Below.refl _ _⟩
  case round =>
    obtain ⟨j, hj, rfl, HW⟩ := hrel
    by_cases hlt : j < n
    · obtain ⟨b1, o1, d, e, hd, he, rfl, hb1, ⟨P1, p1, P2, p2, ⟨k0, k1, k2, k3⟩, _, r1, r2⟩, ⟨P3, p3, P4, p4, ⟨k4, k5, k6, k7⟩, _, r3, r4⟩⟩ := DX.out.pair HX.out hB1 HW.out hlt
      obtain ⟨b2, o2, d', e', hd', he', rfl, hb2, ⟨Q1, q1, Q2, q2, ⟨m0, m1, m2, m3⟩, _, s1, s2⟩, ⟨Q3, q3, Q4, q4, ⟨m4, m5, m6, m7⟩, _, s3, s4⟩⟩ := DY.out.pair HY.out hB2 HW.out hlt
      obtain rfl : d = d' := by rw [hd] at hd'; injection hd'
      obtain rfl : e = e' := by rw [he] at he'; injection he'
      have hsz := HW.out.size
      have hl1 : b1 < wr.heap.size := by omega
      have hl2 : b2 < wr.heap.size := by omega
      have g1 : (j : Int) < (n : Int) := by omega
      have mv : ∀ {W : World} {A : Option Addr} {n : Nat} {l : List Value}, Reads wr w.heap.size 1 A n l → Below wr.heap.size wr W → Reads W W.heap.size 1 A n l := fun h hb => (h.below (hb.mono hsz)).more (by have := hb.size; omega)
      have R := Lib.hid (fun W (hb : Below wr.heap.size wr W) => samePair_any d.ty e.ty d.path e.path (identB d.bef) (identB d.aft) (identB e.bef) (identB e.aft) P1 P2 P3 P4 Q1 Q2 Q3 Q4 _ _ _ _ p1 p2 p3 p4 q1 q2 q3 q4 W (mv r1 hb) (mv r2 hb) (mv r3 hb) (mv r4 hb) (mv s1 hb) (mv s2 hb) (mv s3 hb) (mv s4 hb))
      generalize identB d.bef = I1 at *
      generalize identB d.aft = I2 at *
      generalize d.path = P at *
      generalize d.ty = ty at *
      generalize identB e.bef = I3 at *
      generalize identB e.aft = I4 at *
      generalize e.path = P' at *
      generalize e.ty = ty' at *
      clear hd he hd' he' r1 r2 s1 s2 r3 r4 s3 s4 hb1 hb2 mv
      go_wp2_with (first | (go_at_call 13; (with_reducible refine (R.out _ (below_alloc (below_one wr _) _)).mono ?_); rintro e w' ⟨rfl, hb⟩; have HB := Lib.hid hb; clear hb) | fail)
      go_roundw
      case rel => exact ⟨j + 1, by omega, by go_num, below_then HW.out hsz (below_then (below_alloc (below_one wr _) _) (by simp; omega) HB.out)⟩
      case measure => simp [intOf]; omega
    · have g1 : ¬ (j : Int) < (n : Int) := by omega
      go_wp2
      go_ret
      exact ⟨rfl, HW.out⟩
end Go.Proofs.YtijbdinemjiepaaDoor
