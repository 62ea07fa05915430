/- impl.changes: pointers to changes. -/
import Derived.Test.YtijbdinemjiepaaDoorDfH3
import Derived.Test.YtijbdinemjiepaaDoorDfK
import Derived.Test.YtijbdinemjiepaaDoorDfL
namespace Go.Proofs.YtijbdinemjiepaaDoor
open Go.RowKit

/-- Block g is a change of the package, with this type and this path. -/
def PBlk (w : World) (g : Nat) (d : Dif) : Prop := ∃ x y, Blk w g 74 #[.int .i64 (d.ty : Nat), .string d.path, x, y]
def ptrs (gs : List Nat) : List Value := gs.map fun g => .pointer (some ⟨g, 0, none⟩)
theorem ptrs_append (a b : List Nat) : ptrs (a ++ b) = ptrs a ++ ptrs b := by simp [ptrs]
theorem ptrs_length (a : List Nat) : (ptrs a).length = a.length := by simp [ptrs]
theorem ptrs_at (gs : List Nat) (j g : Nat) (h : gs[j]? = some g) : (ptrs gs)[j]? = some (.pointer (some ⟨g, 0, none⟩)) := by simp [ptrs, h]
theorem ptrs_one (gs : List Nat) : ∀ u ∈ ptrs gs, u.oneCell' = true := by
  intro u hu
  obtain ⟨g, _, rfl⟩ := List.mem_map.1 hu
  rfl
/-- Blocks of changes, each its own, none of them the row's. -/
structure PRow (w : World) (r : Option Nat) (lo : Nat) (gs : List Nat) (ds : List Dif) : Prop where
  len : gs.length = ds.length
  at_ : ∀ (i g : Nat) (d : Dif), gs[i]? = some g → ds[i]? = some d → lo ≤ g ∧ g < w.heap.size ∧ some g ≠ r ∧ PBlk w g d
  dist : gs.Nodup
theorem PBlk.lt {w : World} {g : Nat} {d : Dif} (h : PBlk w g d) : g < w.heap.size := by
  obtain ⟨x, y, h⟩ := h
  exact h.lt
theorem PBlk.grown {w w' : World} {g : Nat} {d : Dif} {r : Option Nat} (h : PBlk w g d) (hg : w.grownBy w' r) (hne : some g ≠ r) : PBlk w' g d := by
  obtain ⟨x, y, h⟩ := h
  exact ⟨x, y, h.grown hg hne⟩
theorem PRow.nil (w : World) (r : Option Nat) (lo : Nat) : PRow w r lo [] [] := ⟨rfl, fun i g d h => by simp at h, List.nodup_nil⟩
theorem PRow.mem {w : World} {r : Option Nat} {lo : Nat} {gs : List Nat} {ds : List Dif} (h : PRow w r lo gs ds) {g : Nat} (hg : g ∈ gs) : lo ≤ g ∧ g < w.heap.size ∧ some g ≠ r := by
  obtain ⟨i, hi, rfl⟩ := List.mem_iff_getElem.1 hg
  have hd : i < ds.length := by rw [← h.len]; exact hi
  obtain ⟨h1, h2, h3, _⟩ := h.at_ i _ _ (List.getElem?_eq_getElem hi) (List.getElem?_eq_getElem hd)
  exact ⟨h1, h2, h3⟩
theorem PRow.grown {w w' : World} {r : Option Nat} {lo : Nat} {gs : List Nat} {ds : List Dif} (h : PRow w r lo gs ds) (hg : w.grownBy w' r) : PRow w' r lo gs ds :=
  ⟨h.len, fun i g d h1 h2 => by
    obtain ⟨a, b, c, e⟩ := h.at_ i g d h1 h2
    exact ⟨a, Nat.lt_of_lt_of_le b hg.size, c, e.grown hg c⟩, h.dist⟩
theorem PRow.below {w w' : World} {r : Option Nat} {lo : Nat} {gs : List Nat} {ds : List Dif} (h : PRow w r lo gs ds) (hb : Below w.heap.size w w') : PRow w' r lo gs ds := h.grown (only_of_below hb r)
theorem PRow.fresh {w : World} {r : Option Nat} {lo : Nat} {gs : List Nat} {ds : List Dif} (h : PRow w r lo gs ds) (r' : Option Nat) (hr : ∀ k, r' = some k → k < lo ∨ w.heap.size ≤ k) : PRow w r' lo gs ds :=
  ⟨h.len, fun i g d h1 h2 => by
    obtain ⟨a, b, c, e⟩ := h.at_ i g d h1 h2
    exact ⟨a, b, fun e2 => by have := hr g e2.symm; omega, e⟩, h.dist⟩
theorem PRow.step {wr W w' : World} {r r' : Option Nat} {lo g : Nat} {gs : List Nat} {ds : List Dif} {d : Dif} (h : PRow wr r lo gs ds) (hb : Below wr.heap.size wr W) (hg : PBlk W g d) (hge : wr.heap.size ≤ g) (hlo : lo ≤ wr.heap.size) (hr : ∀ k, r = some k → k < wr.heap.size) (hgr : W.grownBy w' r) (hat : r' = r ∨ ∃ k, r' = some k ∧ W.heap.size ≤ k) :
    PRow w' r' lo (gs ++ [g]) (ds ++ [d]) := by
  have h1 := h.below hb
  have hl := h.len
  have hne : some g ≠ r := fun e => by have := hr g e.symm; omega
  have key : ∀ (i g2 : Nat) (d2 : Dif), (gs ++ [g])[i]? = some g2 → (ds ++ [d])[i]? = some d2 → lo ≤ g2 ∧ g2 < W.heap.size ∧ some g2 ≠ r ∧ PBlk W g2 d2 := by
    intro i g2 d2 e1 e2
    by_cases hi : i < gs.length
    · rw [List.getElem?_append_left hi] at e1
      rw [List.getElem?_append_left (by omega)] at e2
      exact h1.at_ i g2 d2 e1 e2
    · by_cases hi2 : i = gs.length
      · subst hi2
        rw [List.getElem?_append_right (Nat.le_refl _)] at e1
        rw [List.getElem?_append_right (by omega)] at e2
        simp at e1
        rw [hl] at e2
        simp at e2
        subst e1 e2
        exact ⟨by omega, hg.lt, hne, hg⟩
      · rw [List.getElem?_eq_none (by simp; omega)] at e1
        cases e1
  refine ⟨by simp [hl], fun i g2 d2 e1 e2 => ?_, ?_⟩
  · obtain ⟨a, b, c, e⟩ := key i g2 d2 e1 e2
    refine ⟨a, Nat.lt_of_lt_of_le b hgr.size, ?_, e.grown hgr c⟩
    rcases hat with rfl | ⟨k, rfl, hk⟩
    · exact c
    · intro e3
      injection e3 with e3
      omega
  · rw [List.nodup_append]
    refine ⟨h.dist, by simp, fun a ha b hb2 => ?_⟩
    have := (h.mem ha).2.1
    simp at hb2
    omega
/-- A row of pointers to changes, made by the call. -/
theorem cloneId {I : List UInt8} {A : Option Addr} {c B : Nat} {w : World} (h : Reads w B 1 A I.length (u8s I)) (hB : B ≤ w.heap.size) (h0 : 0 < I.length) (hI : I.length ≤ 1000) : Calls Tryd.prog 30 #[.slice A I.length c] w fun e w' => (∃ b c2, e = .returned (.slice (some ⟨b, 0, none⟩) I.length c2) ∧ I.length ≤ c2 ∧ w.heap.size ≤ b ∧ Reads w' w'.heap.size 1 (some ⟨b, 0, none⟩) I.length (u8s I)) ∧ Below w.heap.size w w' := by
  refine (clone_u8 A _ c B _ w h (u8s_one I) (by omega) hB).mono ?_
  rintro e w' ⟨⟨v, rfl, ho, _⟩, hb⟩
  obtain ⟨g, c2, rfl, hc, hg, _⟩ := own_form ho h0
  exact ⟨⟨g, c2, rfl, hc, hg, Reads.of_own ho⟩, hb⟩
theorem identB_bounds (n : Nat) : 0 < (identB n).length ∧ (identB n).length ≤ 1000 := by
  have := identB_length n
  omega
theorem blk_far {w : World} {g : Nat} {t : TypeId} {cs : Array Value} (h : Blk w g t cs) (g' i : Nat) (hne : g ≠ g') (u : Value) : Blk (w.setCell ⟨g', i, none⟩ u) g t cs := h.far hne u
theorem slice_sz {x y : Nat} (h : x = y) : Value.slice (some ⟨x, 0, none⟩) 1 1 = .slice (some ⟨y, 0, none⟩) 1 1 := by rw [h]
theorem bel_set {w W : World} (h : Below w.heap.size w W) (g i : Nat) (u : Value) (hg : w.heap.size ≤ g) : Below w.heap.size w (W.setCell ⟨g, i, none⟩ u) := h.setCell hg u
set_option maxRecDepth 100000 in
set_option maxHeartbeats 4000000 in
theorem ichanges_any (A : Option Addr) (n c B : Nat) (ds : List Dif) (xs : List Value) (g0 : Option Nat) (w : World) (hx : Reads w B 4 A n xs) (hB : B ≤ w.heap.size) (dx : DRow w g0 ds xs) (hn2 : n ≤ 100000) :
    Calls Tryd.prog 27 #[.slice A n c] w fun e w' => ∃ v gs, e = .returned v ∧ w'.ownsRow w.heap.size 69 1 v n (ptrs gs) ∧ PRow w' v.ownBlock w.heap.size gs ds ∧ Below w.heap.size w w' := by
  obtain ⟨i0, hi, hz0, hz1, hz2⟩ := info_parts infoPcc
  have HN : Hid (ds.length = n) := by show _ = _; have h1 := hx.1; have h2 := dx.length; omega
  have HX := Lib.hid hx
  have DX := Lib.hid dx
  clear hx dx
  go_enter Tryd.func27, Tryd.ntmps27
  go_wp2
  go_loopw [3, 13] (fun sv si wr => ∃ (j : Nat) (gs : List Nat), j ≤ n ∧ si = .int .i64 j ∧ Hid (wr.ownsRow w.heap.size 69 1 sv j (ptrs gs)) ∧ Hid (PRow wr sv.ownBlock w.heap.size gs (ds.take j)) ∧ Hid (Below w.heap.size w wr)) (fun _ si _ => n - (intOf si).toNat)
  case atStart => exact ⟨0, [], Nat.zero_le _, rfl, World.ownsRow_nil _ _ _ _, PRow.nil _ _ _, Below.refl _ _⟩
  case round =>
    obtain ⟨j, gs, hj, rfl, HO, HP, HW⟩ := hrel
    by_cases hlt : j < n
    · obtain ⟨d, hd, htk⟩ : ∃ d, ds[j]? = some d ∧ ds.take (j + 1) = ds.take j ++ [d] := ⟨_, List.getElem?_eq_getElem (by have := HN.out; omega), List.take_succ_eq_append_getElem (by have := HN.out; omega)⟩
      obtain ⟨b1, o1, P1, p1, P2, p2, rfl, hb1, ⟨k0, k1, k2, k3⟩, ⟨hc1, hc2⟩, r1, r2⟩ := DX.out.cells HX.out hB HW.out hd
      have hsz := HW.out.size
      have hl1 : b1 < wr.heap.size := by omega
      have g1 : (j : Int) < (n : Int) := by omega
      obtain ⟨l1, u1⟩ := identB_bounds d.bef
      obtain ⟨l2, u2⟩ := identB_bounds d.aft
      have CA1 := Lib.hid (fun b o c B W => castId_any d.bef b o c B W)
      have CA2 := Lib.hid (fun b o c B W => castId_any d.aft b o c B W)
      have CL1 := Lib.hid (fun W (hb : Below wr.heap.size wr W) => cloneId (c := p1) ((r1.below (hb.mono hsz))) (by have := hb.size; omega) l1 u1)
      have CL2 := Lib.hid (fun W (hb : Below wr.heap.size wr W) => cloneId (c := p2) ((r2.below (hb.mono hsz))) (by have := hb.size; omega) l2 u2)
      have PB : Hid (∀ (W : World) (g : Nat) (x y : Value), Blk W g 74 #[.int .i64 (d.ty : Nat), .string d.path, x, y] → PBlk W g d) := fun W g x y h => ⟨x, y, h⟩
      have HTK := Lib.hid htk
      generalize identB d.bef = I1 at *
      generalize identB d.aft = I2 at *
      generalize d.path = P at *
      generalize d.ty = ty at *
      have HK := Lib.hid ((Blk.new wr 32 #[.int .i64 (ty : Nat), .string P, .slice P1 I1.length p1, .slice P2 I2.length p2]).alloc (.cells #[.int .i64 (ty : Nat), .string P, .string ⟨#[]⟩, .string ⟨#[]⟩] 74))
      have hg0 := Blk.new (wr.alloc (.cells #[.int .i64 (ty : Nat), .string P, .slice P1 I1.length p1, .slice P2 I2.length p2] 32)) 74 #[.int .i64 (ty : Nat), .string P, .string ⟨#[]⟩, .string ⟨#[]⟩]
      rw [World.size_alloc] at hg0
      have HG := Lib.hid hg0
      have HBW := Lib.hid (below_alloc (below_one wr (.cells #[.int .i64 (ty : Nat), .string P, .slice P1 I1.length p1, .slice P2 I2.length p2] 32)) (.cells #[.int .i64 (ty : Nat), .string P, .string ⟨#[]⟩, .string ⟨#[]⟩] 74))
      clear hd r1 r2 hb1 htk hg0
      go_wp2_with (first
        | (go_at_call_of 30 (Value.slice P1 I1.length p1); (with_reducible refine (CL1.out _ HBW.out).mono ?_); clear CL1; rintro e wa1 ⟨⟨ba1, ca1, rfl, hca1, _, hra⟩, hb⟩; have HRA1 := Lib.hid hra; have hka := blk_next hb HK.out; have hga := blk_next hb HG.out; have hwa := bel_next hb HBW.out; clear HK HG HBW hra hb; have HK := Lib.hid hka; have HG := Lib.hid hga; have HBW := Lib.hid hwa; clear hka hga hwa)
        | (go_at_call_of 38 (Value.slice (some ⟨ba1, 0, none⟩) I1.length ca1); (with_reducible refine (CA1.out _ _ _ _ _ HRA1.out hca1 (Nat.le_refl _)).mono ?_); clear CA1 HRA1; rintro e wb1 ⟨rfl, hb⟩; have hka := blk_next hb HK.out; have hga := blk_next hb HG.out; have hwa := bel_next hb HBW.out; clear HK HG HBW hb; have lg1 : wr.heap.size + 1 < wb1.heap.size := hga.lt; have lc1 : wb1.cell? ⟨wr.heap.size + 1, 2, none⟩ = some (.string ⟨#[]⟩) := hga.cell 2; have lf1 : wb1.frozen? ⟨wr.heap.size + 1, 2, none⟩ = false := hga.frozen 2; have kk1 : wb1.cell? ⟨wr.heap.size, 3, none⟩ = some (.slice P2 I2.length p2) := hka.cell 3; have kl1 : wr.heap.size < wb1.heap.size := hka.lt; have HK := Lib.hid ((blk_far hka (wr.heap.size + 1) 2 (Nat.ne_of_lt (Nat.lt_succ_self _)) (.string ⟨I1.toArray⟩)).alloc (.cells #[.string ⟨I1.toArray⟩] 72)); have HG := Lib.hid ((hga.set_ 2 (.string ⟨I1.toArray⟩)).alloc (.cells #[.string ⟨I1.toArray⟩] 72)); have HBW := Lib.hid (below_alloc (bel_set hwa (wr.heap.size + 1) 2 (.string ⟨I1.toArray⟩) (Nat.le_succ _)) (.cells #[.string ⟨I1.toArray⟩] 72)); clear hka hga hwa)
        | (go_at_call_of 30 (Value.slice P2 I2.length p2); (with_reducible refine (CL2.out _ HBW.out).mono ?_); clear CL2; rintro e wa2 ⟨⟨ba2, ca2, rfl, hca2, _, hra⟩, hb⟩; have HRA2 := Lib.hid hra; have hka := blk_next hb HK.out; have hga := blk_next hb HG.out; have hwa := bel_next hb HBW.out; clear HK HG HBW hra hb; have HK := Lib.hid hka; have HG := Lib.hid hga; have HBW := Lib.hid hwa; clear hka hga hwa)
        | (go_at_call_of 38 (Value.slice (some ⟨ba2, 0, none⟩) I2.length ca2); (with_reducible refine (CA2.out _ _ _ _ _ HRA2.out hca2 (Nat.le_refl _)).mono ?_); clear CA2 HRA2; rintro e wb2 ⟨rfl, hb⟩; have hka := blk_next hb HK.out; have hga := blk_next hb HG.out; have hwa := bel_next hb HBW.out; clear HK HG HBW hb; have lg2 : wr.heap.size + 1 < wb2.heap.size := hga.lt; have lc2 : wb2.cell? ⟨wr.heap.size + 1, 3, none⟩ = some (.string ⟨#[]⟩) := hga.cell 3; have lf2 : wb2.frozen? ⟨wr.heap.size + 1, 3, none⟩ = false := hga.frozen 3; have kk2 : wb2.cell? ⟨wr.heap.size, 3, none⟩ = some (.slice P2 I2.length p2) := hka.cell 3; have kl2 : wr.heap.size < wb2.heap.size := hka.lt; have HK := Lib.hid ((blk_far hka (wr.heap.size + 1) 3 (Nat.ne_of_lt (Nat.lt_succ_self _)) (.string ⟨I2.toArray⟩)).alloc (.cells #[.string ⟨I2.toArray⟩] 72)); have HG := Lib.hid ((hga.set_ 3 (.string ⟨I2.toArray⟩)).alloc (.cells #[.string ⟨I2.toArray⟩] 72)); have HBW := Lib.hid (below_alloc (bel_set hwa (wr.heap.size + 1) 3 (.string ⟨I2.toArray⟩) (Nat.le_succ _)) (.cells #[.string ⟨I2.toArray⟩] 72)); clear hka hga hwa)
        | (at_builtin; refine wpList_append_one rfl (.tmp 49) (.tmp 51) 66 rfl w.heap.size i0 (.pointer none) 8 Tryd.underlying66 hi hz0 hz1 hz2 rfl u3 j (ptrs gs) rfl (own_below HO.out HBW.out) (slice_sz (by simp)) rfl (by unfold maxLen; omega) (by omega) (Nat.le_trans hsz HBW.out.size) ?_; rintro v3 w3 hown3 hg3 hat3 -; have HO3 := Lib.hid hown3; have HP3 := Lib.hid (HP.out.step HBW.out (PB.out _ _ _ _ HG.out) (Nat.le_succ _) hsz (fun k hk => (HO.out.lt k hk).2) hg3 hat3); have HW3 := Lib.hid ((below_then HW.out hsz HBW.out).grown hg3 (Nat.le_trans hsz HBW.out.size) (fun k hk => own_base HO.out k hk)); clear hown3 hg3 hat3)
        | fail)
      go_roundw
      case rel => exact ⟨j + 1, gs ++ [wr.heap.size + 1], by omega, by go_num, by show World.ownsRow _ _ _ _ _ _ _; rw [ptrs_append]; exact HO3.out, by show PRow _ _ _ _ _; rw [HTK.out]; exact HP3.out, HW3.out⟩
      case measure => simp [intOf]; omega
    · have hjn : j = n := by omega
      have g1 : ¬ (j : Int) < (n : Int) := by omega
      have HF : Hid (PRow wr u3.ownBlock w.heap.size gs ds) := by show PRow _ _ _ _ _; have h := HP.out; rw [List.take_of_length_le (by have := HN.out; omega)] at h; exact h
      subst hjn
      go_wp2
      go_ret
      exact ⟨_, rfl, gs, HO.out, HF.out, HW.out⟩
end Go.Proofs.YtijbdinemjiepaaDoor
