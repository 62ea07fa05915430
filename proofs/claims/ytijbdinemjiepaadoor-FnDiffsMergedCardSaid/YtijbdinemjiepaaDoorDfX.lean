/- The contracts of changes, DiffsMerged, Merged and EqualFunc in one form; diffsLive. -/
import Derived.Test.YtijbdinemjiepaaDoorDfW
namespace Go.Proofs.YtijbdinemjiepaaDoor
open Go.RowKit

/-- A row that reads as changes, a row that reads as pairs of changes. -/
def Rw (W : World) (A : Option Addr) (n : Nat) (ds : List Dif) : Prop := ∃ xs, Reads W W.heap.size 4 A n xs ∧ DRow W none ds xs
def Rw8 (W : World) (A : Option Addr) (n : Nat) (C : List (Dif × Dif)) : Prop := ∃ xs, Reads W W.heap.size 8 A n xs ∧ DRow W none (flatP C) xs
theorem Rw.below {W W' : World} {A : Option Addr} {n : Nat} {ds : List Dif} (h : Rw W A n ds) (hb : Below W.heap.size W W') : Rw W' A n ds := by
  obtain ⟨xs, h1, h2⟩ := h
  exact ⟨xs, h1.on hb, h2.below hb⟩
theorem Rw8.below {W W' : World} {A : Option Addr} {n : Nat} {C : List (Dif × Dif)} (h : Rw8 W A n C) (hb : Below W.heap.size W W') : Rw8 W' A n C := by
  obtain ⟨xs, h1, h2⟩ := h
  exact ⟨xs, h1.on hb, h2.below hb⟩
theorem path_small (n : Nat) : (chg n).path.size ≤ 1000 := by
  show ((paths8[n / 3 % 8]?).getD ⟨#[]⟩).size ≤ 1000
  have h : n / 3 % 8 < 8 := Nat.mod_lt _ (by omega)
  generalize n / 3 % 8 = k at h
  obtain rfl | rfl | rfl | rfl | rfl | rfl | rfl | rfl : k = 0 ∨ k = 1 ∨ k = 2 ∨ k = 3 ∨ k = 4 ∨ k = 5 ∨ k = 6 ∨ k = 7 := by omega
  all_goals decide
theorem spec_len (a b : List Dif) : (specM Dif.path a b).1.length ≤ a.length + b.length ∧ (specM Dif.path a b).2.length ≤ a.length := by
  rw [← impl_spec]
  exact (implM_mem Dif.path a b).2.2
theorem changes_rw (A : Option Addr) (n c B : Nat) (l : List Nat) (w : World) (hr : Reads w B 1 A n (u16s l)) (hl : ∀ x ∈ l, x < 65536) (hn : n ≤ 60) (hB : B ≤ w.heap.size) :
    Calls Tryd.prog 8 #[.slice A n c] w fun e w' => ∃ A' c', e = .returned (.slice A' n c') ∧ n ≤ c' ∧ Rw w' A' n (l.map chg) ∧ Below w.heap.size w w' := by
  refine (changes_any A n c B l w hr hl hn hB).mono ?_
  rintro e w' ⟨v, xs, rfl, ho, hd, hb⟩
  obtain ⟨A', c', rfl, hc, hr'⟩ := own_shape ho
  exact ⟨A', c', rfl, hc, ⟨xs, hr', hd.bare⟩, hb⟩
theorem diffs_rw (A1 A2 : Option Addr) (n1 n2 c1 c2 : Nat) (ds1 ds2 : List Dif) (w : World) (h1 : Rw w A1 n1 ds1) (h2 : Rw w A2 n2 ds2) (k1 : n1 ≤ c1) (k2 : n2 ≤ c2) (hn1 : n1 ≤ 60) (hn2 : n2 ≤ 60) (hp : ∀ d ∈ ds1 ++ ds2, d.path.size ≤ 1000) :
    Calls Tryd.prog 7 #[.slice A1 n1 c1, .slice A2 n2 c2] w fun e w' => ∃ A3 c3 A4 c4, e = .returned (.tuple #[.slice A3 (specM Dif.path ds1 ds2).1.length c3, .slice A4 (specM Dif.path ds1 ds2).2.length c4]) ∧
      Rw w' A3 (specM Dif.path ds1 ds2).1.length (specM Dif.path ds1 ds2).1 ∧ Rw8 w' A4 (specM Dif.path ds1 ds2).2.length (specM Dif.path ds1 ds2).2 ∧ Below w.heap.size w w' := by
  obtain ⟨xs1, r1, d1⟩ := h1
  obtain ⟨xs2, r2, d2⟩ := h2
  refine (diffsMerged_any A1 A2 n1 n2 c1 c2 ds1 ds2 xs1 xs2 w r1 r2 d1 d2 k1 k2 (by omega) (by omega) hp).mono ?_
  rintro e w' ⟨v1, v2, ys1, ys2, rfl, ⟨o1, e1⟩, ⟨o2, e2⟩, hb⟩
  obtain ⟨A3, c3, rfl, _, q1⟩ := own_shape o1
  obtain ⟨A4, c4, rfl, _, q2⟩ := own_shape o2
  exact ⟨A3, c3, A4, c4, rfl, ⟨ys1, q1, e1.bare⟩, ⟨ys2, q2, e2.bare⟩, hb⟩
theorem merged_rw (A1 A2 : Option Addr) (n1 n2 c1 c2 : Nat) (ds1 ds2 : List Dif) (w : World) (h1 : Rw w A1 n1 ds1) (h2 : Rw w A2 n2 ds2) (hn1 : n1 ≤ 60) (hn2 : n2 ≤ 60) :
    Calls Tryd.prog 9 #[.slice A1 n1 c1, .slice A2 n2 c2] w fun e w' => ∃ A3 c3 A4 c4, e = .returned (.tuple #[.slice A3 (specM Dif.path ds1 ds2).1.length c3, .slice A4 (specM Dif.path ds1 ds2).2.length c4]) ∧
      Rw w' A3 (specM Dif.path ds1 ds2).1.length (specM Dif.path ds1 ds2).1 ∧ Rw8 w' A4 (specM Dif.path ds1 ds2).2.length (specM Dif.path ds1 ds2).2 ∧ Below w.heap.size w w' := by
  obtain ⟨xs1, r1, d1⟩ := h1
  obtain ⟨xs2, r2, d2⟩ := h2
  refine (merged_any A1 A2 n1 n2 c1 c2 ds1 ds2 xs1 xs2 w r1 r2 d1 d2 (by omega) (by omega)).mono ?_
  rintro e w' ⟨v1, v2, ys1, ys2, rfl, ⟨o1, e1⟩, ⟨o2, e2⟩, hb⟩
  obtain ⟨A3, c3, rfl, _, q1⟩ := own_shape o1
  obtain ⟨A4, c4, rfl, _, q2⟩ := own_shape o2
  exact ⟨A3, c3, A4, c4, rfl, ⟨ys1, q1, e1⟩, ⟨ys2, q2, e2⟩, hb⟩
theorem equalDiffs_rw (A1 A2 : Option Addr) (c1 c2 n : Nat) (ds : List Dif) (w : World) (h1 : Rw w A1 n ds) (h2 : Rw w A2 n ds) (hn : n ≤ 100000) :
    Calls Tryd.prog 10 #[.slice A1 n c1, .slice A2 n c2, .func (.func 11) #[] #[]] w fun e w' => e = .returned (.bool true) ∧ Below w.heap.size w w' := by
  obtain ⟨xs1, r1, d1⟩ := h1
  obtain ⟨xs2, r2, d2⟩ := h2
  exact equalDiffs_any A1 A2 c1 c2 n _ _ ds xs1 xs2 none none w r1 (Nat.le_refl _) r2 (Nat.le_refl _) d1 d2 hn
theorem equalPairs_rw (A1 A2 : Option Addr) (c1 c2 n : Nat) (C : List (Dif × Dif)) (w : World) (h1 : Rw8 w A1 n C) (h2 : Rw8 w A2 n C) (hn : n ≤ 100000) :
    Calls Tryd.prog 12 #[.slice A1 n c1, .slice A2 n c2, .func (.func 13) #[] #[]] w fun e w' => e = .returned (.bool true) ∧ Below w.heap.size w w' := by
  obtain ⟨xs1, r1, d1⟩ := h1
  obtain ⟨xs2, r2, d2⟩ := h2
  exact equalPairs_any A1 A2 c1 c2 n _ _ (flatP C) xs1 xs2 none none w r1 (Nat.le_refl _) r2 (Nat.le_refl _) d1 d2 hn
/-- The merge that diffsLive asks for. -/
theorem live_spec : specM Dif.path ([0, 6].map chg) ([1, 3].map chg) = ([chg 6, chg 3], [(chg 0, chg 1)]) := by
  have p0 : (chg 0).path = ⟨#[97]⟩ := rfl
  have p6 : (chg 6).path = ⟨#[97, 47, 98]⟩ := rfl
  have p1 : (chg 1).path = ⟨#[97]⟩ := rfl
  have p3 : (chg 3).path = ⟨#[98]⟩ := rfl
  simp [specM, stepS, lastOf, takenB, p0, p6, p1, p3]
theorem live_l {W : World} {A : Option Addr} (h : Rw W A [chg 6, chg 3].length [chg 6, chg 3]) : ∃ b o, A = some ⟨b, o, none⟩ ∧ W.cell? ⟨b, o + 1, none⟩ = some (.string ⟨#[97, 47, 98]⟩) ∧ W.cell? ⟨b, o + 4 + 1, none⟩ = some (.string ⟨#[98]⟩) := by
  obtain ⟨xs, r, d⟩ := h
  obtain ⟨b, o, _, _, _, _, rfl, _, ⟨_, k1, _, _⟩, _⟩ := d.cells r (Nat.le_refl _) (Below.refl _ _) (j := 0) rfl
  obtain ⟨b', o', _, _, _, _, e, _, ⟨_, m1, _, _⟩, _⟩ := d.cells r (Nat.le_refl _) (Below.refl _ _) (j := 1) rfl
  obtain ⟨rfl, rfl⟩ : b = b' ∧ o = o' := by injection e with e; injection e with h1 h2; exact ⟨h1, h2⟩
  refine ⟨b, o, rfl, ?_, ?_⟩
  · rw [show (chg 6).path = ⟨#[97, 47, 98]⟩ from rfl] at k1
    simpa using k1
  · rw [show (chg 3).path = ⟨#[98]⟩ from rfl] at m1
    simpa using m1
theorem live_c {W : World} {A : Option Addr} (h : Rw8 W A [(chg 0, chg 1)].length [(chg 0, chg 1)]) : ∃ b o, A = some ⟨b, o, none⟩ ∧ W.cell? ⟨b, o, none⟩ = some (.int .i64 0) ∧ W.cell? ⟨b, o + 4, none⟩ = some (.int .i64 1) := by
  obtain ⟨xs, r, d⟩ := h
  obtain ⟨b, o, x, y, hx, hy, rfl, _, ⟨_, _, _, _, ⟨k0, _, _, _⟩, _⟩, ⟨_, _, _, _, ⟨m0, _, _, _⟩, _⟩⟩ := d.pair r (Nat.le_refl _) (Below.refl _ _) (j := 0) (by decide)
  obtain rfl : chg 0 = x := by simpa [flatP] using hx
  obtain rfl : chg 1 = y := by simpa [flatP] using hy
  refine ⟨b, o, rfl, ?_, ?_⟩
  · rw [show (chg 0).ty = 0 from rfl] at k0
    simpa using k0
  · rw [show (chg 1).ty = 1 from rfl] at m0
    simpa using m0
set_option maxRecDepth 100000 in
set_option maxHeartbeats 4000000 in
theorem diffsLive_any (w : World) : Calls Tryd.prog 6 #[] w fun e w' => e = .returned (.bool true) ∧ Below w.heap.size w w' := by
  have CH1 := Lib.hid (changes_rw (some ⟨w.heap.size, 0, none⟩) 2 2 _ [0, 6] _ ((Blk.new w 64 #[.int .u16 0, .int .u16 6]).reads 0 2 (Nat.le_refl _)) (by decide) (by omega) (Nat.le_refl _))
  have CH2 := Lib.hid (fun W : World => changes_rw (some ⟨W.heap.size, 0, none⟩) 2 2 _ [1, 3] _ ((Blk.new W 64 #[.int .u16 1, .int .u16 3]).reads 0 2 (Nat.le_refl _)) (by decide) (by omega) (Nat.le_refl _))
  have HP : Hid (∀ d ∈ [0, 6].map chg ++ [1, 3].map chg, d.path.size ≤ 1000) := Lib.hid (fun d hd => by
    rw [← List.map_append] at hd
    obtain ⟨n, _, rfl⟩ := List.mem_map.1 hd
    exact path_small n)
  go_enter Tryd.func6, Tryd.ntmps6
  go_wp2_with (first
    | (go_at_call_of 8 (Value.slice (some ⟨w.heap.size, 0, none⟩) 2 2); (with_reducible refine CH1.out.mono ?_); clear CH1; rintro e w1 ⟨A1, c1, rfl, hc1, hr, hb⟩; have R1 := Lib.hid hr; have HB := Lib.hid (below_then (below_one w _) (by simp) hb); clear hr hb)
    | (go_at_call 8; (with_reducible refine (CH2.out w1).mono ?_); clear CH2; rintro e w2 ⟨A2, c2, rfl, hc2, hr, hb⟩; have R2 := Lib.hid hr; have hb1 := below_then (below_one w1 _) (by simp) hb; have R1' := Lib.hid (R1.out.below hb1); have HB' := Lib.hid (below_then HB.out HB.out.size hb1); clear R1 HB hr hb hb1)
    | (go_at_call 7; (with_reducible refine (diffs_rw A1 A2 2 2 c1 c2 _ _ w2 R1'.out R2.out hc1 hc2 (by omega) (by omega) HP.out).mono ?_); rw [live_spec]; rintro e w3 ⟨A3, c3, A4, c4, rfl, h3, h4, hb⟩; obtain ⟨b3, o3, rfl, q1, q2⟩ := live_l h3; obtain ⟨b4, o4, rfl, q3, q4⟩ := live_c h4; have HB3 := Lib.hid (below_then HB'.out HB'.out.size hb); clear h3 h4 hb)
    | fail)
  go_ret
  exact ⟨rfl, HB3.out⟩
end Go.Proofs.YtijbdinemjiepaaDoor
