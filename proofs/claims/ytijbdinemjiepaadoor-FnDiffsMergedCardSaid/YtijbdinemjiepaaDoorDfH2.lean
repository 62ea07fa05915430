/- slices.EqualFunc over two rows of the same changes. -/
import Derived.Test.YtijbdinemjiepaaDoorDfH
namespace Go.Proofs.YtijbdinemjiepaaDoor
open Go.RowKit

theorem Reads.litN {w : World} {B size n : Nat} {A : Option Addr} {xs : List Value} (h : Reads w B size A n xs) (hn : 0 < n) (hs : 0 < size) : ∃ b o, A = some ⟨b, o, none⟩ ∧ b < B ∧ ∀ j u, xs[j]? = some u → w.cell? ⟨b, o + j, none⟩ = some u := by
  obtain ⟨ad, e, hb, hc⟩ := h.2 hn
  have hl : 0 < xs.length := by rw [h.1]; exact Nat.mul_pos hn hs
  obtain ⟨b, o, s⟩ := ad
  have h0 := hc 0 _ (List.getElem?_eq_getElem hl)
  have hs : s = none := by
    rcases s with _ | s
    · rfl
    · exfalso
      have e1 : (⟨b, o, some s⟩ : Addr).add 0 = ⟨b, o, some s⟩ := by unfold Addr.add; rfl
      rw [e1] at h0
      unfold World.cell? at h0
      split at h0 <;> simp at h0
  subst hs
  exact ⟨b, o, e, hb, fun j u hu => by rw [← add_plain]; exact hc j u hu⟩
/-- A change of a row, as a later world has it. -/
theorem DRow.cells {w W : World} {B n : Nat} {A : Option Addr} {xs : List Value} {g : Option Nat} {ds : List Dif} (hx : Reads w B 4 A n xs) (hB : B ≤ w.heap.size) (hd : DRow w g ds xs) (hW : Below w.heap.size w W) {j : Nat} {d : Dif} (hj : ds[j]? = some d) :
    ∃ b o A1 c1 A2 c2, A = some ⟨b, o, none⟩ ∧ b < B ∧ (W.cell? ⟨b, o + j * 4, none⟩ = some (.int .i64 (d.ty : Nat)) ∧ W.cell? ⟨b, o + j * 4 + 1, none⟩ = some (.string d.path) ∧ W.cell? ⟨b, o + j * 4 + 2, none⟩ = some (.slice A1 (identB d.bef).length c1) ∧ W.cell? ⟨b, o + j * 4 + 3, none⟩ = some (.slice A2 (identB d.aft).length c2)) ∧
      ((identB d.bef).length ≤ c1 ∧ (identB d.aft).length ≤ c2) ∧ Reads W w.heap.size 1 A1 (identB d.bef).length (u8s (identB d.bef)) ∧ Reads W w.heap.size 1 A2 (identB d.aft).length (u8s (identB d.aft)) := by
  obtain ⟨v, hv, hvi⟩ := hd.at_ j d hj
  have hl := hd.length
  have hjl : j < ds.length := (List.getElem?_eq_some_iff.1 hj).1
  have hn : 0 < n := by have := hx.1; omega
  obtain ⟨b, o, rfl, hb, hc⟩ := hx.litN hn (by omega)
  obtain ⟨A1, c1, A2, c2, rfl, hcc, ⟨r1, r2⟩, _⟩ := hv
  have q : ∀ i u, xs[4 * j + i]? = some u → W.cell? ⟨b, o + j * 4 + i, none⟩ = some u := fun i u hu => by
    have h := hc _ u hu
    rw [show o + j * 4 + i = o + (4 * j + i) by omega]
    exact (hW.cell (p := ⟨b, o + (4 * j + i), none⟩) (Nat.lt_of_lt_of_le hb hB)).trans h
  exact ⟨b, o, A1, c1, A2, c2, rfl, hb, ⟨q 0 _ (hvi 0 (by omega)), q 1 _ (hvi 1 (by omega)), q 2 _ (hvi 2 (by omega)), q 3 _ (hvi 3 (by omega))⟩, hcc, r1.below hW, r2.below hW⟩
theorem sized {w : World} {A : Option Addr} {B m n : Nat} {xs : List Value} (h : Reads w B m A n xs) (hn : n = 0) : xs = [] := List.eq_nil_of_length_eq_zero (by rw [h.1, hn, Nat.zero_mul])
set_option maxRecDepth 100000 in
set_option maxHeartbeats 4000000 in
theorem equalDiffs_any (A1 A2 : Option Addr) (c1 c2 n B1 B2 : Nat) (ds : List Dif) (xs ys : List Value) (g1 g2 : Option Nat) (w : World) (hx : Reads w B1 4 A1 n xs) (hB1 : B1 ≤ w.heap.size) (hy : Reads w B2 4 A2 n ys) (hB2 : B2 ≤ w.heap.size) (dx : DRow w g1 ds xs) (dy : DRow w g2 ds ys) (hn2 : n ≤ 100000) :
    Calls Tryd.prog 10 #[.slice A1 n c1, .slice A2 n c2, .func (.func 11) #[] #[]] w fun e w' => e = .returned (.bool true) ∧ Below w.heap.size w w' := by
  have HN : Hid (ds.length = n) := by show _ = _; have h1 := hx.1; have h2 := dx.length; omega
  have HX := Lib.hid hx
  have HY := Lib.hid hy
  have DX := Lib.hid dx
  have DY := Lib.hid dy
  clear hx hy dx dy
  go_enter Tryd.func10, Tryd.ntmps10
  go_wp2
  go_loopw [17] (fun si wr => ∃ j : Nat, j ≤ n ∧ si = .int .i64 j ∧ Hid (Below w.heap.size w wr)) (fun si _ => n - (intOf si).toNat)
  case atStart => exact ⟨0, Nat.zero_le _, rfl, Below.refl _ _⟩
  case round =>
    obtain ⟨j, hj, rfl, HW⟩ := hrel
    by_cases hlt : j < n
    · obtain ⟨d, hd⟩ : ∃ d, ds[j]? = some d := ⟨_, List.getElem?_eq_getElem (by have := HN.out; omega)⟩
      obtain ⟨b1, o1, P1, p1, P2, p2, rfl, hb1, ⟨k0, k1, k2, k3⟩, _, r1, r2⟩ := DX.out.cells HX.out hB1 HW.out hd
      obtain ⟨b2, o2, Q1, q1, Q2, q2, rfl, hb2, ⟨m0, m1, m2, m3⟩, _, s1, s2⟩ := DY.out.cells HY.out hB2 HW.out hd
      have hsz := HW.out.size
      have hl1 : b1 < wr.heap.size := by omega
      have hl2 : b2 < wr.heap.size := by omega
      have g1 : (j : Int) < (n : Int) := by omega
      have R := Lib.hid (fun W (hb : Below wr.heap.size wr W) => sameDiff_any d.ty d.path (identB d.bef) (identB d.aft) P1 P2 Q1 Q2 _ _ p1 p2 q1 q2 W ((r1.below (hb.mono hsz)).more (by have := hb.size; omega)) ((r2.below (hb.mono hsz)).more (by have := hb.size; omega)) ((s1.below (hb.mono hsz)).more (by have := hb.size; omega)) ((s2.below (hb.mono hsz)).more (by have := hb.size; omega)))
      generalize identB d.bef = I1 at *
      generalize identB d.aft = I2 at *
      generalize d.path = P at *
      generalize d.ty = ty at *
      clear hd r1 r2 s1 s2 hb1 hb2
      go_wp2_with (first | (go_at_call 11; (with_reducible refine (R.out _ (below_alloc (below_one wr _) _)).mono ?_); rintro e w' ⟨rfl, hb⟩; have HB := Lib.hid hb; clear hb) | fail)
      go_roundw
      case rel => exact ⟨j + 1, by omega, by go_num, below_then HW.out hsz (below_then (below_alloc (below_one wr _) _) (by simp; omega) HB.out)⟩
      case measure => simp [intOf]; omega
    · have g1 : ¬ (j : Int) < (n : Int) := by omega
      go_wp2
      go_ret
      exact ⟨rfl, HW.out⟩
end Go.Proofs.YtijbdinemjiepaaDoor
