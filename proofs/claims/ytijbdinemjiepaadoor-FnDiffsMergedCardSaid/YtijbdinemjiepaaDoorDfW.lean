/- spec.Merged. -/
import Derived.Test.YtijbdinemjiepaaDoorDfV
namespace Go.Proofs.YtijbdinemjiepaaDoor
open Go.RowKit

theorem DIn.any {w W : World} {d : Dif} {v : List Value} (h : DIn w none d v) (hW : Below w.heap.size w W) {g : Option Nat} (hg : ∀ k, g = some k → w.heap.size ≤ k) : DIn W g d v := by
  cases g with
  | none => exact h.below hW
  | some k => exact h.move (only_of_below hW none) k (hg k rfl)
/-- What the loops of spec.Merged hold. -/
structure SS (w wr : World) (v6 vc : Value) (s : List Dif × List (Dif × Dif)) (xs ys : List Value) : Prop where
  out : wr.ownsRow (w.heap.size + 1) 32 4 v6 s.1.length xs
  d1 : DRow w none s.1 xs
  con : wr.ownsRow (w.heap.size + 1) 35 8 vc s.2.length ys
  d2 : DRow w none (flatP s.2) ys
  box : Blk wr w.heap.size 25 #[vc]
  apart : Apart v6 vc
  below : Below w.heap.size w wr
section
variable {w wr W w' : World} {v6 vc v' : Value} {s : List Dif × List (Dif × Dif)} {xs ys : List Value}
theorem SS.size (h : SS w wr v6 vc s xs ys) : w.heap.size + 1 ≤ wr.heap.size := h.box.lt
theorem SS.grow (h : SS w wr v6 vc s xs ys) (hb : Below wr.heap.size wr W) : SS w W v6 vc s xs ys :=
  ⟨own_below h.out hb, h.d1, own_below h.con hb, h.d2, h.box.below hb h.box.lt, h.apart, below_then h.below h.below.size hb⟩
theorem SS.appOut {d : Dif} {v : List Value} (h : SS w wr v6 vc s xs ys) (hb : Below wr.heap.size wr W) (hd : DIn w none d v) (ho : w'.ownsRow (w.heap.size + 1) 32 4 v' (s.1.length + 1) (xs ++ v)) (hg : W.grownBy w' v6.ownBlock) (hat : v'.ownBlock = v6.ownBlock ∨ v'.ownBlock = some W.heap.size) :
    SS w w' v' vc (s.1 ++ [d], s.2) (xs ++ v) ys := by
  have h1 := h.grow hb
  refine ⟨by rw [List.length_append]; exact ho, DRow.snoc hd h1.d1, own_beside h1.con hg h1.apart, h1.d2, h1.box.grown hg (fun e => ?_), apart_grown h1.con h1.apart (hat.imp id fun e => ⟨_, e, Nat.le_refl _⟩), h1.below.grown hg h1.below.size (fun k hk => ?_)⟩
  · have := own_base h1.out _ e.symm; omega
  · have := own_base h1.out _ hk; omega
theorem SS.appCon {d e : Dif} {v u : List Value} (h : SS w wr v6 vc s xs ys) (hb : Below wr.heap.size wr W) (hd : DIn w none d v) (he : DIn w none e u) (ho : w'.ownsRow (w.heap.size + 1) 35 8 v' (s.2.length + 1) (ys ++ (v ++ u))) (hg : W.grownBy w' vc.ownBlock) (hat : v'.ownBlock = vc.ownBlock ∨ v'.ownBlock = some W.heap.size) :
    SS w (w'.setCell ⟨w.heap.size, 0, none⟩ v') v6 v' (s.1, s.2 ++ [(d, e)]) xs (ys ++ (v ++ u)) := by
  have h1 := h.grow hb
  have hbw : Below w.heap.size w w' := h1.below.grown hg h1.below.size (fun k hk => by have := own_base h1.con _ hk; omega)
  have hbox := h1.box.grown hg (fun e => by have := own_base h1.con _ e.symm; omega)
  refine ⟨ownsRow_setCell_below (own_beside h1.out hg h1.apart.symm) (by show w.heap.size < _; omega) v', h1.d1, ownsRow_setCell_below (by rw [List.length_append]; exact ho) (by show w.heap.size < _; omega) v', ?_, hbox.set_ 0 v', (apart_grown h1.out h1.apart.symm (hat.imp id fun e => ⟨_, e, Nat.le_refl _⟩)).symm, hbw.setCell (Nat.le_refl _) v'⟩
  rw [flatP_snoc]
  have h2 : DRow w none (flatP s.2 ++ [d]) (ys ++ v) := DRow.snoc hd h1.d2
  have h3 : DRow w none ((flatP s.2 ++ [d]) ++ [e]) ((ys ++ v) ++ u) := DRow.snoc he h2
  rw [List.append_assoc, List.append_assoc] at h3
  exact h3
end
theorem own_drew {w : World} {base size n : Nat} {e : TypeId} {v : Value} {xs : List Value} (h : w.ownsRow base e size v n xs) : w.drew.ownsRow base e size v n xs := h
theorem grown_undrew {w w' : World} {r : Option Nat} (h : w.drew.grownBy w' r) : w.grownBy w' r := ⟨h.os, h.tape, h.output, h.size, h.block⟩
/-- Which of the second list the number tells. -/
def KIs (b : List Dif) (i : Nat) (P : ByteArray) (z : Int) : Prop := (z = -1 ∧ lastOf Dif.path (b.take i) P = none) ∨ ∃ (m : Nat) (y : Dif), z = (m : Int) ∧ m < i ∧ b[m]? = some y ∧ lastOf Dif.path (b.take i) P = some y
theorem KIs.start (b : List Dif) (P : ByteArray) : KIs b 0 P (-1) := .inl ⟨rfl, rfl⟩
theorem last_snoc (b : List Dif) (y : Dif) (P : ByteArray) : lastOf Dif.path (b ++ [y]) P = if y.path = P then some y else lastOf Dif.path b P := by
  unfold lastOf
  rw [List.foldl_append]
  rfl
theorem KIs.hit {b : List Dif} {i : Nat} {P : ByteArray} {y : Dif} (hy : b[i]? = some y) (ht : b.take (i + 1) = b.take i ++ [y]) (hp : y.path = P) : KIs b (i + 1) P (i : Int) :=
  .inr ⟨i, y, rfl, Nat.lt_succ_self i, hy, by rw [ht, last_snoc, if_pos hp]⟩
theorem KIs.miss {b : List Dif} {i : Nat} {P : ByteArray} {y : Dif} {z : Int} (h : KIs b i P z) (ht : b.take (i + 1) = b.take i ++ [y]) (hp : ¬ y.path = P) : KIs b (i + 1) P z := by
  rcases h with ⟨h1, h2⟩ | ⟨m, x, h1, h2, h3, h4⟩
  · exact .inl ⟨h1, by rw [ht, last_snoc, if_neg hp, h2]⟩
  · exact .inr ⟨m, x, h1, by omega, h3, by rw [ht, last_snoc, if_neg hp, h4]⟩
theorem stepS_len (b : List Dif) (s : List Dif × List (Dif × Dif)) (x : Dif) : (stepS Dif.path b s x).1.length + (stepS Dif.path b s x).2.length = s.1.length + s.2.length + 1 := by
  unfold stepS
  split
  · simp; omega
  · split <;> simp <;> omega
theorem DRow.inn {w : World} {n b o m : Nat} {xs : List Value} {ds : List Dif} {d : Dif} {P1 P2 : Option Addr} {l1 l2 p1 p2 : Nat} {W : World} (hr : Reads w w.heap.size 4 (some ⟨b, o, none⟩) n xs) (hd : DRow w none ds xs) (hW : Below w.heap.size w W) (hm : ds[m]? = some d) (k2 : W.cell? ⟨b, o + m * 4 + 2, none⟩ = some (.slice P1 l1 p1)) (k3 : W.cell? ⟨b, o + m * 4 + 3, none⟩ = some (.slice P2 l2 p2)) :
    DIn w none d [.int .i64 (d.ty : Nat), .string d.path, .slice P1 l1 p1, .slice P2 l2 p2] := by
  obtain ⟨b', o', P1', p1', P2', p2', e', hb', ⟨_, _, q2, q3⟩, hcc', r1, r2⟩ := hd.cells hr (Nat.le_refl _) (Below.refl _ _) hm
  obtain ⟨rfl, rfl⟩ : b = b' ∧ o = o' := by injection e' with e'; injection e' with h1 h2; exact ⟨h1, h2⟩
  have m2 := (hW.cell (p := ⟨b, o + m * 4 + 2, none⟩) hb').symm.trans k2
  have m3 := (hW.cell (p := ⟨b, o + m * 4 + 3, none⟩) hb').symm.trans k3
  rw [q2] at m2
  rw [q3] at m3
  injection m2 with m2
  injection m3 with m3
  injection m2 with a1 a2 a3
  injection m3 with a4 a5 a6
  subst a1 a2 a3 a4 a5 a6
  exact ⟨_, _, _, _, rfl, hcc', ⟨r1, r2⟩, nofun, nofun⟩
theorem kept8 {W : World} {g b o bx ty yty : Nat} {P Q : ByteArray} {v2 v3 y2 y3 : Value} (hg : g ≠ bx) (hb : b ≠ bx) (u : Value)
    (h : W.cell? ⟨g, 0, none⟩ = some (.int .i64 (ty : Nat)) ∧ W.cell? ⟨g, 1, none⟩ = some (.string P) ∧ W.cell? ⟨g, 2, none⟩ = some v2 ∧ W.cell? ⟨g, 3, none⟩ = some v3 ∧ W.cell? ⟨b, o, none⟩ = some (.int .i64 (yty : Nat)) ∧ W.cell? ⟨b, o + 1, none⟩ = some (.string Q) ∧ W.cell? ⟨b, o + 2, none⟩ = some y2 ∧ W.cell? ⟨b, o + 3, none⟩ = some y3) :
    (W.setCell ⟨bx, 0, none⟩ u).cell? ⟨g, 0, none⟩ = some (.int .i64 (ty : Nat)) ∧ (W.setCell ⟨bx, 0, none⟩ u).cell? ⟨g, 1, none⟩ = some (.string P) ∧ (W.setCell ⟨bx, 0, none⟩ u).cell? ⟨g, 2, none⟩ = some v2 ∧ (W.setCell ⟨bx, 0, none⟩ u).cell? ⟨g, 3, none⟩ = some v3 ∧ (W.setCell ⟨bx, 0, none⟩ u).cell? ⟨b, o, none⟩ = some (.int .i64 (yty : Nat)) ∧ (W.setCell ⟨bx, 0, none⟩ u).cell? ⟨b, o + 1, none⟩ = some (.string Q) ∧ (W.setCell ⟨bx, 0, none⟩ u).cell? ⟨b, o + 2, none⟩ = some y2 ∧ (W.setCell ⟨bx, 0, none⟩ u).cell? ⟨b, o + 3, none⟩ = some y3 := by
  have q : ∀ b' o' v, b' ≠ bx → W.cell? ⟨b', o', none⟩ = some v → (W.setCell ⟨bx, 0, none⟩ u).cell? ⟨b', o', none⟩ = some v := by
    intro b' o' v hb hv
    rw [World.cell?_setCell_other _ _ _ _ (fun e => by injection e with e; omega), hv]
  obtain ⟨h0, h1, h2, h3, h4, h5, h6, h7⟩ := h
  exact ⟨q _ _ _ hg h0, q _ _ _ hg h1, q _ _ _ hg h2, q _ _ _ hg h3, q _ _ _ hb h4, q _ _ _ hb h5, q _ _ _ hb h6, q _ _ _ hb h7⟩
set_option maxRecDepth 100000 in
set_option maxHeartbeats 4000000 in
theorem merged_any (A1 A2 : Option Addr) (n1 n2 c1 c2 : Nat) (ds1 ds2 : List Dif) (xs1 xs2 : List Value) (w : World) (h1 : Reads w w.heap.size 4 A1 n1 xs1) (h2 : Reads w w.heap.size 4 A2 n2 xs2) (d1 : DRow w none ds1 xs1) (d2 : DRow w none ds2 xs2) (hn1 : n1 ≤ 400) (hn2 : n2 ≤ 400) :
    Calls Tryd.prog 9 #[.slice A1 n1 c1, .slice A2 n2 c2] w fun e w' => ∃ v1 v2 ys1 ys2, e = .returned (.tuple #[v1, v2]) ∧
      (w'.ownsRow w.heap.size 32 4 v1 (specM Dif.path ds1 ds2).1.length ys1 ∧ DRow w' none (specM Dif.path ds1 ds2).1 ys1) ∧
      (w'.ownsRow w.heap.size 35 8 v2 (specM Dif.path ds1 ds2).2.length ys2 ∧ DRow w' none (flatP (specM Dif.path ds1 ds2).2) ys2) ∧ Below w.heap.size w w' := by
  obtain ⟨i0, hi, hz0, hz1, hz2⟩ := info_parts infoDiff
  obtain ⟨i8, hi8, hy0, hy1, hy2⟩ := info_parts info8
  have HN1 : Hid (ds1.length = n1) := by show _ = _; have := h1.1; have := d1.length; omega
  have HN2 : Hid (ds2.length = n2) := by show _ = _; have := h2.1; have := d2.length; omega
  have H1 := Lib.hid h1
  have H2 := Lib.hid h2
  have D1 := Lib.hid d1
  have D2 := Lib.hid d2
  clear h1 h2 d1 d2
  go_enter Tryd.func9, Tryd.ntmps9
  go_wp2
  go_loopw [6, 19] (fun sv si wr => ∃ (j : Nat) (vc : Value) (s : List Dif × List (Dif × Dif)) (xs ys : List Value), j ≤ n1 ∧ si = .int .i64 j ∧ Hid (s = (ds1.take j).foldl (stepS Dif.path ds2) ([], [])) ∧ s.1.length + s.2.length = j ∧ Hid (SS w wr sv vc s xs ys)) (fun _ si _ => n1 - (intOf si).toNat)
  case atStart => exact ⟨0, .slice none 0 0, ([], []), [], [], Nat.zero_le _, rfl, rfl, rfl, World.ownsRow_nil _ _ _ _, rfl, World.ownsRow_nil _ _ _ _, rfl, Blk.new _ _ _, apart_nil _, below_one w _⟩
  case round =>
    obtain ⟨j, vc, s, xs, ys, hj, rfl, HF, hsum, HS⟩ := hrel
    obtain ⟨Ac, cc, rfl, hcc0, -⟩ := own_shape HS.out.con
    by_cases hlt : j < n1
    · obtain ⟨d, hd, htk⟩ : ∃ d, ds1[j]? = some d ∧ ds1.take (j + 1) = ds1.take j ++ [d] := ⟨_, List.getElem?_eq_getElem (by have := HN1.out; omega), List.take_succ_eq_append_getElem (by have := HN1.out; omega)⟩
      obtain ⟨b1, o1, P1, p1, P2, p2, rfl, hb1, ⟨k0, k1, k2, k3⟩, hcc, _, _⟩ := D1.out.cells H1.out (Nat.le_refl _) HS.out.below hd
      have DI : Hid (DIn w none d [.int .i64 (d.ty : Nat), .string d.path, .slice P1 (identB d.bef).length p1, .slice P2 (identB d.aft).length p2]) := Lib.hid (D1.out.inn H1.out HS.out.below hd k2 k3)
      have HST : Hid ((ds1.take (j + 1)).foldl (stepS Dif.path ds2) ([], []) = stepS Dif.path ds2 s d) := by show _ = _; rw [htk, List.foldl_append, ← HF.out]; rfl
      have g1 : (j : Int) < (n1 : Int) := by omega
      have hsz := HS.out.size
      have hbl : b1 < wr.heap.size := by omega
      have HX := Lib.hid (Blk.new wr 32 #[.int .i64 (d.ty : Nat), .string d.path, .slice P1 (identB d.bef).length p1, .slice P2 (identB d.aft).length p2])
      have HS0 := Lib.hid (HS.out.grow (below_one wr (.cells #[.int .i64 (d.ty : Nat), .string d.path, .slice P1 (identB d.bef).length p1, .slice P2 (identB d.aft).length p2] 32)))
      have NEX : Hid (some wr.heap.size ≠ (Value.slice Ac s.2.length cc).ownBlock) := Lib.hid (fun e => by have := (HS.out.con.lt _ e.symm).2; omega)
      clear hd htk HF HS hcc
      obtain ⟨wA, hwA⟩ : ∃ x, x = wr := ⟨wr, rfl⟩
      subst hwA
      have hlen := stepS_len ds2 s d
      have HSTL := Lib.hid hlen
      clear hlen
      obtain ⟨dty, hdty⟩ : ∃ x, d.ty = x := ⟨_, rfl⟩
      obtain ⟨dpa, hdpa⟩ : ∃ x, d.path = x := ⟨_, rfl⟩
      obtain ⟨l1, hl1⟩ : ∃ x, (identB d.bef).length = x := ⟨_, rfl⟩
      obtain ⟨l2, hl2⟩ : ∃ x, (identB d.aft).length = x := ⟨_, rfl⟩
      rw [hdty, hdpa, hl1, hl2] at DI HX HS0
      rw [hdty] at k0
      rw [hdpa] at k1
      rw [hl1] at k2
      rw [hl2] at k3
      have HPA := Lib.hid hdpa
      clear hdty hdpa hl1 hl2
      go_wp2
      go_loopw [11, 25] (fun sk si wr => ∃ (i : Nat) (z : Int), i ≤ n2 ∧ si = .int .i64 i ∧ sk = .int .i64 z ∧ Hid (KIs ds2 i dpa z) ∧ Hid (Below (wA.alloc (.cells #[.int .i64 (dty : Nat), .string dpa, .slice P1 l1 p1, .slice P2 l2 p2] 32)).heap.size (wA.alloc (.cells #[.int .i64 (dty : Nat), .string dpa, .slice P1 l1 p1, .slice P2 l2 p2] 32)) wr)) (fun _ si _ => n2 - (intOf si).toNat)
      case atStart => exact ⟨0, -1, Nat.zero_le _, rfl, rfl, KIs.start _ _, Below.refl _ _⟩
      case round =>
        obtain ⟨i, z, hi2, rfl, rfl, HK, HB⟩ := hrel
        have HSB := Lib.hid (HS0.out.grow HB.out)
        have hX := HX.out.below HB.out HX.out.lt
        have x1 : wr.cell? ⟨wA.heap.size, 1, none⟩ = some (.string dpa) := hX.cell 1
        have xl := hX.lt
        by_cases hlt2 : i < n2
        · obtain ⟨y, hy, hyt⟩ : ∃ y, ds2[i]? = some y ∧ ds2.take (i + 1) = ds2.take i ++ [y] := ⟨_, List.getElem?_eq_getElem (by have := HN2.out; omega), List.take_succ_eq_append_getElem (by have := HN2.out; omega)⟩
          obtain ⟨b2, o2, Q1, q1, Q2, q2, rfl, hb2, ⟨m0, m1, m2, m3⟩, _, _, _⟩ := D2.out.cells H2.out (Nat.le_refl _) HSB.out.below hy
          have hsz2 := HSB.out.size
          have hbl2 : b2 < wr.heap.size := by omega
          have g2 : (i : Int) < (n2 : Int) := by omega
          have HY := Lib.hid hy
          have HYT := Lib.hid hyt
          obtain ⟨ypa, hypa⟩ : ∃ x, y.path = x := ⟨_, rfl⟩
          rw [hypa] at m1
          have HYP := Lib.hid hypa
          generalize identB y.bef = I1 at *
          generalize identB y.aft = I2 at *
          generalize y.ty = yty at *
          clear hy hyt hypa hX
          by_cases hp : ypa = dpa
          · have hpd : (ypa.toList == dpa.toList) = true := by rw [hp]; simp
            have HP := Lib.hid hp
            clear hp
            go_wp2
            go_roundw
            case rel => exact ⟨i + 1, (i : Int), by omega, by go_num, rfl, KIs.hit HY.out HYT.out (HYP.out.trans HP.out), below_alloc HB.out _⟩
            case measure => simp [intOf]; omega
          · have hpd : (ypa.toList == dpa.toList) = false := by rw [bytes_beq]; exact decide_eq_false hp
            have HP := Lib.hid hp
            clear hp
            go_wp2
            go_roundw
            case rel => exact ⟨i + 1, z, by omega, by go_num, rfl, HK.out.miss HYT.out (by rw [HYP.out]; exact HP.out), below_alloc HB.out _⟩
            case measure => simp [intOf]; omega
        · have g2 : ¬ (i : Int) < (n2 : Int) := by omega
          have x0 : wr.cell? ⟨wA.heap.size, 0, none⟩ = some (.int .i64 (dty : Nat)) := hX.cell 0
          have x2 : wr.cell? ⟨wA.heap.size, 2, none⟩ = some (.slice P1 l1 p1) := hX.cell 2
          have x3 : wr.cell? ⟨wA.heap.size, 3, none⟩ = some (.slice P2 l2 p2) := hX.cell 3
          have HXB := Lib.hid hX
          clear hX
          have hk := HK.out
          rw [show i = n2 by omega] at hk
          unfold KIs at hk
          rw [List.take_of_length_le (by have := HN2.out; omega)] at hk
          rcases hk with ⟨rfl, hlast⟩ | ⟨m, y, rfl, hm, hy, hlast⟩
          · have HE : Hid (stepS Dif.path ds2 s d = (s.1 ++ [d], s.2)) := by show _ = _; unfold stepS; rw [HPA.out, hlast]
            clear hlast HK
            go_wp2_with (first
              | (at_builtin; refine wpList_append_any _ rfl (.tmp 45) (.tmp 47) 24 rfl (w.heap.size + 1) 32 i0 _ 4 72 Tryd.underlying24 hi hz0 hz1 hz2 rfl (by decide) u6 s.1.length xs rfl (HSB.out.out.alloc _) (wr.heap.size + 1) (some ⟨wr.heap.size, 0, none⟩) 1 1 _ rfl (lit4 wr _ _ _ _ _) (by intro u hu; simp at hu; rcases hu with rfl | rfl | rfl | rfl <;> rfl) (by unfold maxLen; omega) (by omega) (by have := HSB.out.size; simp; omega) ?_; rintro v3 w3 hown3 hg3 hat3 -; have HS3 := Lib.hid (HSB.out.appOut (below_one wr _) DI.out hown3 hg3 hat3); clear hown3 hg3 hat3)
              | fail)
            go_roundw
            case rel => exact ⟨j + 1, _, (s.1 ++ [d], s.2), _, _, by omega, by go_num, by show _ = _; rw [HST.out, HE.out], by simp; omega, HS3.out⟩
            case measure => simp [intOf]; omega
          · have TK0 := taken_any Ac s.2.length cc w.heap.size s.2 ys dpa wr (Reads.of_own HSB.out.con) (HSB.out.d2.below HSB.out.below) (HSB.out.box.cell 0) (by omega)
            have hm2 : (m : Int) < (n2 : Int) := by omega
            cases hT : takenB Dif.path s.2 dpa with
            | true =>
              rw [hT] at TK0
              have TK := Lib.hid TK0
              have HE : Hid (stepS Dif.path ds2 s d = (s.1 ++ [d], s.2)) := by show _ = _; unfold stepS; rw [HPA.out, hlast]; simp [hT]
              clear hlast HK TK0 hy hT
              go_wp2_with (first
                | (go_at_call 33; (with_reducible refine TK.out.mono ?_); clear TK; rintro e w1 ⟨rfl, hb⟩; have HS1 := Lib.hid (HSB.out.grow hb); have hX1 := HXB.out.below hb HXB.out.lt; have y0 : w1.cell? ⟨wA.heap.size, 0, none⟩ = some (.int .i64 (dty : Nat)) := hX1.cell 0; have y1 : w1.cell? ⟨wA.heap.size, 1, none⟩ = some (.string dpa) := hX1.cell 1; have y2 : w1.cell? ⟨wA.heap.size, 2, none⟩ = some (.slice P1 l1 p1) := hX1.cell 2; have y3 : w1.cell? ⟨wA.heap.size, 3, none⟩ = some (.slice P2 l2 p2) := hX1.cell 3; have HX1 := Lib.hid hX1; have bc : w1.cell? ⟨w.heap.size, 0, none⟩ = some (.slice Ac s.2.length cc) := HS1.out.box.cell 0; have bf : w1.frozen? ⟨w.heap.size, 0, none⟩ = false := HS1.out.box.frozen 0; have bl : w.heap.size < w1.heap.size := HS1.out.box.lt; clear hX1 hb)
                | (at_builtin; refine wpList_append_any _ rfl (.tmp 45) (.tmp 47) 24 rfl (w.heap.size + 1) 32 i0 _ 4 72 Tryd.underlying24 hi hz0 hz1 hz2 rfl (by decide) u6 s.1.length xs rfl (HS1.out.out.alloc _) (w1.heap.size + 1) (some ⟨w1.heap.size, 0, none⟩) 1 1 _ rfl (lit4 w1 _ _ _ _ _) (by intro u hu; simp at hu; rcases hu with rfl | rfl | rfl | rfl <;> rfl) (by unfold maxLen; omega) (by omega) (by have := HS1.out.size; simp; omega) ?_; rintro v3 w3 hown3 hg3 hat3 -; have HS3 := Lib.hid (HS1.out.appOut (below_one w1 _) DI.out hown3 hg3 hat3); clear hown3 hg3 hat3)
                | fail)
              go_roundw
              case rel => exact ⟨j + 1, _, (s.1 ++ [d], s.2), _, _, by omega, by go_num, by show _ = _; rw [HST.out, HE.out], by simp; omega, HS3.out⟩
              case measure => simp [intOf]; omega
            | false =>
              rw [hT] at TK0
              have TK := Lib.hid TK0
              have HE : Hid (stepS Dif.path ds2 s d = (s.1, s.2 ++ [(d, y)])) := by show _ = _; unfold stepS; rw [HPA.out, hlast]; simp [hT]
              have HY := Lib.hid hy
              clear hlast HK TK0 hy hT
              go_wp2_with (first
                | (go_at_call 33; (with_reducible refine TK.out.mono ?_); clear TK; rintro e w1 ⟨rfl, hb⟩; have HS1 := Lib.hid (HSB.out.grow hb); have hX1 := HXB.out.below hb HXB.out.lt; have y0 : w1.cell? ⟨wA.heap.size, 0, none⟩ = some (.int .i64 (dty : Nat)) := hX1.cell 0; have y1 : w1.cell? ⟨wA.heap.size, 1, none⟩ = some (.string dpa) := hX1.cell 1; have y2 : w1.cell? ⟨wA.heap.size, 2, none⟩ = some (.slice P1 l1 p1) := hX1.cell 2; have y3 : w1.cell? ⟨wA.heap.size, 3, none⟩ = some (.slice P2 l2 p2) := hX1.cell 3; have HX1 := Lib.hid hX1; have bc : w1.cell? ⟨w.heap.size, 0, none⟩ = some (.slice Ac s.2.length cc) := HS1.out.box.cell 0; have bf : w1.frozen? ⟨w.heap.size, 0, none⟩ = false := HS1.out.box.frozen 0; have bl : w.heap.size < w1.heap.size := HS1.out.box.lt; clear hX1 hb)
                | fail)
              obtain ⟨b2, o2, Q1, q1, Q2, q2, rfl, hb2, ⟨m0, m1, m2, m3⟩, _, _, _⟩ := D2.out.cells H2.out (Nat.le_refl _) HS1.out.below HY.out
              have DIY := Lib.hid (D2.out.inn H2.out HS1.out.below HY.out m2 m3)
              have HYP : Hid (∃ x, y.path = x) := ⟨_, rfl⟩
              have NEB : Hid (some w.heap.size ≠ (Value.slice Ac s.2.length cc).ownBlock) := Lib.hid (fun e => by have := own_base HS1.out.con _ e.symm; omega)
              obtain ⟨ypa, hypa⟩ : ∃ x, y.path = x := ⟨_, rfl⟩
              obtain ⟨yty, hyty⟩ : ∃ x, y.ty = x := ⟨_, rfl⟩
              obtain ⟨g1', hg1⟩ : ∃ x, (identB y.bef).length = x := ⟨_, rfl⟩
              obtain ⟨g2', hg2⟩ : ∃ x, (identB y.aft).length = x := ⟨_, rfl⟩
              rw [hypa, hyty, hg1, hg2] at DIY
              rw [hyty] at m0
              rw [hypa] at m1
              rw [hg1] at m2
              rw [hg2] at m3
              clear hypa hyty hg1 hg2 HYP
              have KEEP : Hid (∀ (o : Obj) (w8 : World), (w1.alloc o).grownBy w8 (Value.slice Ac s.2.length cc).ownBlock → (w8.cell? ⟨wA.heap.size, 0, none⟩ = some (.int .i64 (dty : Nat)) ∧ w8.cell? ⟨wA.heap.size, 1, none⟩ = some (.string dpa) ∧ w8.cell? ⟨wA.heap.size, 2, none⟩ = some (.slice P1 l1 p1) ∧ w8.cell? ⟨wA.heap.size, 3, none⟩ = some (.slice P2 l2 p2) ∧ w8.cell? ⟨b2, o2 + m * 4, none⟩ = some (.int .i64 (yty : Nat)) ∧ w8.cell? ⟨b2, o2 + m * 4 + 1, none⟩ = some (.string ypa) ∧ w8.cell? ⟨b2, o2 + m * 4 + 2, none⟩ = some (.slice Q1 g1' q1) ∧ w8.cell? ⟨b2, o2 + m * 4 + 3, none⟩ = some (.slice Q2 g2' q2))) := Lib.hid (fun o w8 hg => by
                have hx8 := (HX1.out.alloc o).grown hg NEX.out
                have hbw : Below w.heap.size w1 w8 := ((Below.refl w.heap.size w1).alloc (by have := HS1.out.size; omega) o).grown hg (by have := HS1.out.size; simp; omega) (fun k hk => by have := own_base HS1.out.con k hk; omega)
                exact ⟨hx8.cell 0, hx8.cell 1, hx8.cell 2, hx8.cell 3, (hbw.cell (p := ⟨b2, _, none⟩) hb2).trans m0, (hbw.cell (p := ⟨b2, _, none⟩) hb2).trans m1, (hbw.cell (p := ⟨b2, _, none⟩) hb2).trans m2, (hbw.cell (p := ⟨b2, _, none⟩) hb2).trans m3⟩)
              have hbl2 : b2 < w1.heap.size := Nat.lt_trans hb2 bl
              have n1' : wA.heap.size ≠ w.heap.size := by omega
              have n2' : b2 ≠ w.heap.size := by omega
              go_region_law (first | (refine step_append_row _ rfl (.tmp 49) (.tmp 56) 25 (by rfl) (w.heap.size + 1) 35 i8 _ 8 144 Tryd.underlying25 hi8 hy0 hy1 hy2 rfl (by decide) (.slice Ac s.2.length cc) s.2.length ys (by rfl) (own_drew (HS1.out.con.alloc _)) _ _ 1 1 _ (by rfl) (lit8 w1 _ _ _ _ _ _ _ _ _).drew (by intro u hu; simp at hu; rcases hu with rfl | rfl | rfl | rfl | rfl | rfl | rfl | rfl <;> rfl) (by unfold maxLen; omega) (by omega) (by have := HS1.out.size; simp; omega) ?_; intro v3 w8 hown3 hg3 hat3; have hg3 := grown_undrew hg3; have HK8 := Lib.hid (KEEP.out _ _ hg3); have hbx8 := (HS1.out.box.alloc _).grown hg3 NEB.out; have bc8 : w8.cell? ⟨w.heap.size, 0, none⟩ = some (.slice Ac s.2.length cc) := hbx8.cell 0; have bf8 : w8.frozen? ⟨w.heap.size, 0, none⟩ = false := hbx8.frozen 0; have bl8 : w.heap.size < w8.heap.size := hbx8.lt; have HS3 := Lib.hid (HS1.out.appCon (below_one w1 _) DI.out DIY.out hown3 hg3 hat3); obtain ⟨A8, c8, rfl, -, -⟩ := own_shape hown3; clear hown3 hg3 hat3 hbx8) | fail)
              all_goals
                go_wp2
                go_roundw
                case rel => exact ⟨j + 1, _, (s.1, s.2 ++ [(d, y)]), _, _, by omega, by go_num, by show _ = _; rw [HST.out, HE.out], by simp; omega, HS3.out⟩
                case measure => simp [intOf]; omega
    · have g1 : ¬ (j : Int) < (n1 : Int) := by omega
      have HF2 : Hid (s = ds1.foldl (stepS Dif.path ds2) ([], [])) := by show _ = _; have h := HF.out; rw [List.take_of_length_le (by have := HN1.out; omega)] at h; exact h
      clear HF
      go_wp2
      go_loopw [6, 61] (fun sv si wr => ∃ (j : Nat) (o : List Dif) (xs3 : List Value), j ≤ n2 ∧ si = .int .i64 j ∧ Hid (o = (ds2.take j).foldl (fun o y => if takenB Dif.path s.2 y.path then o else o ++ [y]) s.1) ∧ o.length ≤ n1 + j ∧ Hid (SS w wr sv (.slice Ac s.2.length cc) (o, s.2) xs3 ys)) (fun _ si _ => n2 - (intOf si).toNat)
      case atStart => exact ⟨0, s.1, xs, Nat.zero_le _, rfl, rfl, by omega, HS.out⟩
      case round =>
        obtain ⟨j3, o, xs3, hj3, rfl, HO, hol, HSB⟩ := hrel
        by_cases hlt3 : j3 < n2
        · obtain ⟨y, hy, hyt⟩ : ∃ y, ds2[j3]? = some y ∧ ds2.take (j3 + 1) = ds2.take j3 ++ [y] := ⟨_, List.getElem?_eq_getElem (by have := HN2.out; omega), List.take_succ_eq_append_getElem (by have := HN2.out; omega)⟩
          obtain ⟨b2, o2, Q1, q1, Q2, q2, rfl, hb2, ⟨m0, m1, m2, m3⟩, _, _, _⟩ := D2.out.cells H2.out (Nat.le_refl _) HSB.out.below hy
          have DIY := Lib.hid (D2.out.inn H2.out HSB.out.below hy m2 m3)
          have hsz3 := HSB.out.size
          have hbl2 : b2 < wr.heap.size := by omega
          have g3 : (j3 : Int) < (n2 : Int) := by omega
          have HST3 : Hid ((ds2.take (j3 + 1)).foldl (fun o y => if takenB Dif.path s.2 y.path then o else o ++ [y]) s.1 = if takenB Dif.path s.2 y.path then o else o ++ [y]) := by show _ = _; rw [hyt, List.foldl_append, ← HO.out]; rfl
          have TK0 := fun W (hW : Below wr.heap.size wr W) => taken_any Ac s.2.length cc w.heap.size s.2 ys y.path W (Reads.of_own (HSB.out.grow hW).con) ((HSB.out.grow hW).d2.below (HSB.out.grow hW).below) ((HSB.out.grow hW).box.cell 0) (by omega)
          obtain ⟨ypa, hypa⟩ : ∃ x, y.path = x := ⟨_, rfl⟩
          obtain ⟨yty, hyty⟩ : ∃ x, y.ty = x := ⟨_, rfl⟩
          obtain ⟨g1', hg1⟩ : ∃ x, (identB y.bef).length = x := ⟨_, rfl⟩
          obtain ⟨g2', hg2⟩ : ∃ x, (identB y.aft).length = x := ⟨_, rfl⟩
          rw [hypa, hyty, hg1, hg2] at DIY
          rw [hyty] at m0
          rw [hypa] at m1 HST3 TK0
          rw [hg1] at m2
          rw [hg2] at m3
          clear hypa hyty hg1 hg2 HO hy hyt
          cases hT : takenB Dif.path s.2 ypa with
          | true =>
            rw [hT] at TK0 HST3
            have TK := Lib.hid TK0
            clear hT TK0
            go_wp2_with (first
              | (go_at_call 33; (with_reducible refine (TK.out _ (below_one wr _)).mono ?_); clear TK; rintro e w1 ⟨rfl, hb⟩; have hb0 := below_then (below_one wr _) (by simp) hb; have HS1 := Lib.hid (HSB.out.grow hb0); have hX1 := (Blk.new wr 32 #[.int .i64 (yty : Nat), .string ypa, .slice Q1 g1' q1, .slice Q2 g2' q2]).below hb (by simp); have y0 : w1.cell? ⟨wr.heap.size, 0, none⟩ = some (.int .i64 (yty : Nat)) := hX1.cell 0; have y1 : w1.cell? ⟨wr.heap.size, 1, none⟩ = some (.string ypa) := hX1.cell 1; have y2 : w1.cell? ⟨wr.heap.size, 2, none⟩ = some (.slice Q1 g1' q1) := hX1.cell 2; have y3 : w1.cell? ⟨wr.heap.size, 3, none⟩ = some (.slice Q2 g2' q2) := hX1.cell 3; clear hX1 hb hb0)
              | fail)
            go_roundw
            case rel => exact ⟨j3 + 1, o, xs3, by omega, by go_num, by show _ = _; rw [HST3.out]; rfl, by omega, HS1.out⟩
            case measure => simp [intOf]; omega
          | false =>
            rw [hT] at TK0 HST3
            have TK := Lib.hid TK0
            clear hT TK0
            go_wp2_with (first
              | (go_at_call 33; (with_reducible refine (TK.out _ (below_one wr _)).mono ?_); clear TK; rintro e w1 ⟨rfl, hb⟩; have hb0 := below_then (below_one wr _) (by simp) hb; have HS1 := Lib.hid (HSB.out.grow hb0); have hX1 := (Blk.new wr 32 #[.int .i64 (yty : Nat), .string ypa, .slice Q1 g1' q1, .slice Q2 g2' q2]).below hb (by simp); have y0 : w1.cell? ⟨wr.heap.size, 0, none⟩ = some (.int .i64 (yty : Nat)) := hX1.cell 0; have y1 : w1.cell? ⟨wr.heap.size, 1, none⟩ = some (.string ypa) := hX1.cell 1; have y2 : w1.cell? ⟨wr.heap.size, 2, none⟩ = some (.slice Q1 g1' q1) := hX1.cell 2; have y3 : w1.cell? ⟨wr.heap.size, 3, none⟩ = some (.slice Q2 g2' q2) := hX1.cell 3; clear hX1 hb hb0)
              | (at_builtin; refine wpList_append_any _ rfl (.tmp 70) (.tmp 72) 24 rfl (w.heap.size + 1) 32 i0 _ 4 72 Tryd.underlying24 hi hz0 hz1 hz2 rfl (by decide) u6 o.length xs3 rfl (HS1.out.out.alloc _) (w1.heap.size + 1) (some ⟨w1.heap.size, 0, none⟩) 1 1 _ rfl (lit4 w1 _ _ _ _ _) (by intro u hu; simp at hu; rcases hu with rfl | rfl | rfl | rfl <;> rfl) (by unfold maxLen; omega) (by omega) (by have := HS1.out.size; simp; omega) ?_; rintro v3 w3 hown3 hg3 hat3 -; have HS3 := Lib.hid (HS1.out.appOut (below_one w1 _) DIY.out hown3 hg3 hat3); clear hown3 hg3 hat3)
              | fail)
            go_roundw
            case rel => exact ⟨j3 + 1, o ++ [y], _, by omega, by go_num, by show _ = _; rw [HST3.out]; rfl, by simp; omega, HS3.out⟩
            case measure => simp [intOf]; omega
        · have g3 : ¬ (j3 : Int) < (n2 : Int) := by omega
          have HEND : Hid (specM Dif.path ds1 ds2 = (o, s.2)) := by
            show _ = _
            have h := HO.out
            rw [List.take_of_length_le (by have := HN2.out; omega)] at h
            unfold specM
            rw [← HF2.out, h]
          have bc : wr.cell? ⟨w.heap.size, 0, none⟩ = some (.slice Ac s.2.length cc) := HSB.out.box.cell 0
          clear HO
          go_wp2_with fail
          go_quiet (fail)
          have e1 : (specM Dif.path ds1 ds2).1 = o := by rw [HEND.out]
          have e2 : (specM Dif.path ds1 ds2).2 = s.2 := by rw [HEND.out]
          have hbf := below_drewN HSB.out.below nq
          have FIN : Hid (((wr.drewN nq).ownsRow w.heap.size 32 4 u6 (specM Dif.path ds1 ds2).1.length xs3 ∧ DRow (wr.drewN nq) none (specM Dif.path ds1 ds2).1 xs3) ∧ ((wr.drewN nq).ownsRow w.heap.size 35 8 (.slice Ac s.2.length cc) (specM Dif.path ds1 ds2).2.length ys ∧ DRow (wr.drewN nq) none (flatP (specM Dif.path ds1 ds2).2) ys) ∧ Below w.heap.size w (wr.drewN nq)) := by
            rw [e1, e2]
            exact Lib.hid ⟨⟨own_more HSB.out.out (Nat.le_succ _), HSB.out.d1.below hbf⟩, ⟨own_more HSB.out.con (Nat.le_succ _), HSB.out.d2.below hbf⟩, hbf⟩
          clear e1 e2 hbf
          go_wp2
          go_ret2
          obtain ⟨f1, f2, f3⟩ := FIN.out
          exact ⟨_, _, _, _, rfl, f1, f2, f3⟩
end Go.Proofs.YtijbdinemjiepaaDoor
