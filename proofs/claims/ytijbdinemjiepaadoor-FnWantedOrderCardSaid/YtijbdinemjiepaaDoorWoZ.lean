/- laws.listsLive. -/
import Derived.Test.YtijbdinemjiepaaDoorWoY
namespace Go.Proofs.YtijbdinemjiepaaDoor
open Go.RowKit

theorem TR.at_ {W : World} {B : Nat} : ∀ {l : List Tld} {zs : List Value} (_ : TR W B l zs) (j : Nat) (t : Tld), l[j]? = some t → ∃ v1 v2 es, (zs[j * 6]? = some (.bool t.ok) ∧ zs[j * 6 + 1]? = some v1 ∧ zs[j * 6 + 2]? = some (.int .i32 t.ent.prio) ∧ zs[j * 6 + 3]? = some (.bool t.ent.hv) ∧ zs[j * 6 + 4]? = some (.int .i64 (t.len : Nat)) ∧ zs[j * 6 + 5]? = some v2) ∧
    W.ownsRow B 5 1 v1 t.ent.cid.length (u8s t.ent.cid) ∧ W.ownsRow B 52 3 v2 t.all.length es ∧ ER W B t.all es
  | [], _, _, _, _, h => by simp at h
  | x :: r, zs, ⟨v1, v2, es, ys, e1, h1, h2, h3, h4⟩, 0, t, h => by
    have h : x = t := by simpa using h
    subst h
    rw [e1]
    exact ⟨v1, v2, es, ⟨rfl, rfl, rfl, rfl, rfl, rfl⟩, h1, h2, h3⟩
  | x :: r, zs, ⟨v1, v2, es, ys, e1, h1, h2, h3, h4⟩, j + 1, t, h => by
    obtain ⟨u1, u2, fs, hc, k⟩ := TR.at_ h4 j t (by simpa using h)
    refine ⟨u1, u2, fs, ?_, k⟩
    rw [e1]
    have e : ∀ i, (Value.bool x.ok :: v1 :: .int .i32 x.ent.prio :: .bool x.ent.hv :: .int .i64 (x.len : Nat) :: v2 :: ys)[(j + 1) * 6 + i]? = ys[j * 6 + i]? := fun i => by
      rw [show (j + 1) * 6 + i = (j * 6 + i) + 1 + 1 + 1 + 1 + 1 + 1 by omega]
      simp only [List.getElem?_cons_succ]
    have e0 := e 0
    rw [Nat.add_zero, Nat.add_zero] at e0
    rw [e0, e 1, e 2, e 3, e 4, e 5]
    exact hc
/-- What a step told, in memory, as a later world has it. -/
theorem told_at {w W : World} {base B : Nat} {l : List Tld} {v : Value} {xs : List Value} (h : w.ownsRow base 60 6 v l.length xs) (ht : TR w B l xs) (hW : Below w.heap.size w W) {j : Nat} {t : Tld} (hj : l[j]? = some t) :
    ∃ g c A1 c1 A2 c2 es, v = .slice (some ⟨g, 0, none⟩) l.length c ∧ l.length ≤ c ∧ (W.cell? ⟨g, j * 6, none⟩ = some (.bool t.ok) ∧ W.cell? ⟨g, j * 6 + 1, none⟩ = some (.slice A1 t.ent.cid.length c1) ∧ W.cell? ⟨g, j * 6 + 2, none⟩ = some (.int .i32 t.ent.prio) ∧ W.cell? ⟨g, j * 6 + 3, none⟩ = some (.bool t.ent.hv) ∧ W.cell? ⟨g, j * 6 + 4, none⟩ = some (.int .i64 (t.len : Nat)) ∧ W.cell? ⟨g, j * 6 + 5, none⟩ = some (.slice A2 t.all.length c2)) ∧
    Reads w w.heap.size 1 A1 t.ent.cid.length (u8s t.ent.cid) ∧ w.ownsRow B 52 3 (.slice A2 t.all.length c2) t.all.length es ∧ ER w B t.all es := by
  have hl : 0 < l.length := by have := (List.getElem?_eq_some_iff.1 hj).1; omega
  obtain ⟨g, c, rfl, hc, _, hlt⟩ := own_form h hl
  obtain ⟨v1, v2, es, ⟨k0, k1, k2, k3, k4, k5⟩, o1, o2, o3⟩ := ht.at_ j t hj
  obtain ⟨A1, c1, rfl, _, r1⟩ := own_shape o1
  obtain ⟨A2, c2, rfl, _, _⟩ := own_shape o2
  have hcell : ∀ i u, xs[i]? = some u → W.cell? ⟨g, i, none⟩ = some u := fun i u hu => by
    have h1 := h.cells (g := g) rfl i u hu
    rw [add_plain, Nat.zero_add] at h1
    exact (hW.cell (p := ⟨g, i, none⟩) hlt).trans h1
  exact ⟨g, c, A1, c1, A2, c2, es, rfl, hc, ⟨hcell _ _ k0, hcell _ _ k1, hcell _ _ k2, hcell _ _ k3, hcell _ _ k4, hcell _ _ k5⟩, r1, o2, o3⟩
def liveE (c : List UInt8) : Enr := ⟨c, 3, true⟩
def liveL (c : List UInt8) : List Wnt := [⟨0, liveE c⟩, ⟨3, liveE c⟩]
theorem live_told (c : List UInt8) : wantedW (liveL c) = [⟨true, noE, 1, [liveE c]⟩, ⟨true, liveE c, 1, [liveE c]⟩] := by
  have hn : sortW (namesW (liveL c)) = [c] := by
    have : namesW (liveL c) = [c] := by simp [namesW, liveL, addN, liveE]
    rw [this]
    unfold sortW
    simp
  unfold wantedW
  rw [hn]
  simp [runW, liveL, stW, toldW, okW, stepW, entW, cntW, allW, foundW, putF, liveE]
theorem keep_cell {w w' : World} {a : Addr} {v : Value} (hb : Below w.heap.size w w') (h : w.cell? a = some v) : w'.cell? a = some v := cell_later hb h
/-- A call that says yes. -/
structure YesB (w : World) (r : Ending) (w' : World) : Prop where
  ret : r = .returned (.bool true)
  below : Below w.heap.size w w'
theorem lit_wants (w : World) (c : List UInt8) (A : Option Addr) (d : Nat) (o : Obj) {base : Nat} (h : w.ownsRow base 5 1 (.slice A c.length d) c.length (u8s c)) : RowF ((w.alloc o).alloc (.cells #[.int .i64 0, .slice A c.length d, .int .i32 3, .bool true, .int .i64 3, .slice A c.length d, .int .i32 3, .bool true] 54)) 4 2 ((liveL c).flatMap wntF) (.slice (some ⟨w.heap.size + 1, 0, none⟩) 2 2) := by
  have hb := below_alloc (below_one w o) (.cells #[.int .i64 0, .slice A c.length d, .int .i32 3, .bool true, .int .i64 3, .slice A c.length d, .int .i32 3, .bool true] 54)
  have hr := reads_lit2 w o 54 [.int .i64 0, .slice A c.length d, .int .i32 3, .bool true, .int .i64 3, .slice A c.length d, .int .i32 3, .bool true]
  have hin := own_in (own_below h hb)
  refine ⟨_, _, _, rfl, Nat.le_refl _, ⟨rfl, fun _ => (hr.more (by simp)).2 (show 0 < 8 by omega)⟩, ?_⟩
  exact ⟨_, _, rfl, ⟨rfl, rfl⟩, _, _, rfl, hin, _, _, rfl, ⟨rfl, rfl⟩, _, _, rfl, ⟨rfl, rfl⟩, _, _, rfl, ⟨rfl, rfl⟩, _, _, rfl, hin, _, _, rfl, ⟨rfl, rfl⟩, _, _, rfl, ⟨rfl, rfl⟩, rfl⟩
set_option maxRecDepth 100000 in
set_option maxHeartbeats 8000000 in
theorem listsLive_any (w : World) : Calls Tryd.prog 19 #[] w (YesB w) := by
  have HI : Hid (Calls Tryd.prog 21 #[.int .u8 1] w (Owns w 5 1 (identB 1).length (u8s (identB 1)))) := Lib.hid (ident_any 1 w (by omega))
  have HCT := Lib.hid (castable_id 1)
  generalize identB 1 = c at HI HCT
  have HLT := Lib.hid (live_told c)
  have HKL : Hid (∀ q ∈ liveL c, q.kind ≤ 3 ∧ Castable q.ent.cid) := Lib.hid (by
    intro q hq
    simp only [liveL, List.mem_cons, List.not_mem_nil, or_false] at hq
    rcases hq with rfl | rfl
    · exact ⟨Nat.zero_le _, HCT.out⟩
    · exact ⟨Nat.le_refl _, HCT.out⟩)
  go_enter Tryd.func19, Tryd.ntmps19
  go_wp2_with (first
    | (go_at_call 21; (with_reducible refine HI.out.mono ?_); clear HI; rintro e1 w1 ⟨⟨v1, rfl, ho⟩, hb⟩; obtain ⟨A1, c1, rfl, hc1, _⟩ := own_shape ho; have HO1 := Lib.hid ho; have HB1 := Lib.hid hb; clear ho hb)
    | (go_at_call 22; go_must (refine (wanted_any _ 2 2 (liveL c) _ (lit_wants w1 c A1 c1 _ HO1.out) rfl (by omega) HKL.out).mono ?_); rintro e2 w2 ⟨⟨v2, xs, rfl, ho, ht⟩, hb⟩; rw [HLT.out] at ho ht; obtain ⟨g, cg, rfl, hcg, _, _⟩ := own_form ho (Nat.succ_pos _); have HOUT := Lib.hid ho; have HTR := Lib.hid ht; have HBW := Lib.hid hb; clear ho ht hb)
    | fail)
  have hbx := bkeep HBW.out ((Blk.new w1 52 #[.slice A1 c.length c1, .int .i32 3, .bool true]).alloc (.cells #[.int .i64 0, .slice A1 c.length c1, .int .i32 3, .bool true, .int .i64 3, .slice A1 c.length c1, .int .i32 3, .bool true] 54))
  obtain ⟨g0, d0, P1, p1, P2, p2, es0, e0, _, ⟨k0, k1, k2, k3, k4, k5⟩, _, _, _⟩ := told_at HOUT.out HTR.out (Below.refl _ _) (j := 0) rfl
  injection e0 with e0
  injection e0 with e0
  injection e0 with e0
  subst e0
  obtain ⟨g0, d1, Q1, q1, Q2, q2, es1, e0, _, ⟨m0, m1, m2, m3, m4, m5⟩, hrq, _, _⟩ := told_at HOUT.out HTR.out (Below.refl _ _) (j := 1) rfl
  injection e0 with e0
  injection e0 with e0
  injection e0 with e0
  subst e0
  have hb2 := below_alloc (below_one w1 (.cells #[.slice A1 c.length c1, .int .i32 3, .bool true] 52)) (.cells #[.int .i64 0, .slice A1 c.length c1, .int .i32 3, .bool true, .int .i64 3, .slice A1 c.length c1, .int .i32 3, .bool true] 54)
  have ho1 := own_below (own_below HO1.out hb2) HBW.out
  have HSE : Hid (∀ W, Below w2.heap.size w2 W → Calls Tryd.prog 25 #[.agg #[.slice Q1 c.length q1, .int .i32 3, .bool true], .agg #[.slice A1 c.length c1, .int .i32 3, .bool true]] W fun r W' => r = .returned (.bool true) ∧ Below W.heap.size W W') := Lib.hid (fun W hW => sameEntry_any (liveE c) Q1 A1 q1 c1 W (ron hrq hW) (ron (Reads.of_own ho1) hW))
  have KK : Hid (w2.cell? ⟨g, 0, none⟩ = some (.bool true) ∧ w2.cell? ⟨g, 4, none⟩ = some (.int .i64 1) ∧ w2.cell? ⟨g, 5, none⟩ = some (.slice P2 1 p2) ∧ w2.cell? ⟨g, 6, none⟩ = some (.bool true) ∧ w2.cell? ⟨g, 7, none⟩ = some (.slice Q1 c.length q1) ∧ w2.cell? ⟨g, 8, none⟩ = some (.int .i32 3) ∧ w2.cell? ⟨g, 9, none⟩ = some (.bool true) ∧ w2.cell? ⟨w1.heap.size, 0, none⟩ = some (.slice A1 c.length c1) ∧ w2.cell? ⟨w1.heap.size, 1, none⟩ = some (.int .i32 3) ∧ w2.cell? ⟨w1.heap.size, 2, none⟩ = some (.bool true)) := Lib.hid ⟨k0, k4, k5, m0, m1, m2, m3, hbx.cell 0, hbx.cell 1, hbx.cell 2⟩
  have HBT := Lib.hid (below_then (below_then HB1.out HB1.out.size hb2) (below_then HB1.out HB1.out.size hb2).size HBW.out)
  have HDR : Hid (Below w2.heap.size w2 w2.drew) := Lib.hid (below_drewN (Below.refl _ _) 1)
  clear k0 k1 k2 k3 k4 k5 m0 m1 m2 m3 m4 m5 hbx hrq ho1 hb2 HB1
  go_region_held3 (fun w' => w'.cell? ⟨g, 0, none⟩ = some (.bool true) ∧ w'.cell? ⟨g, 4, none⟩ = some (.int .i64 1) ∧ w'.cell? ⟨g, 5, none⟩ = some (.slice P2 1 p2) ∧ w'.cell? ⟨g, 6, none⟩ = some (.bool true) ∧ w'.cell? ⟨g, 7, none⟩ = some (.slice Q1 c.length q1) ∧ w'.cell? ⟨g, 8, none⟩ = some (.int .i32 3) ∧ w'.cell? ⟨g, 9, none⟩ = some (.bool true) ∧ w'.cell? ⟨w1.heap.size, 0, none⟩ = some (.slice A1 c.length c1) ∧ w'.cell? ⟨w1.heap.size, 1, none⟩ = some (.int .i32 3) ∧ w'.cell? ⟨w1.heap.size, 2, none⟩ = some (.bool true)) (first | exact KK.out | exact KK9.out) (first
    | (go_at_call 25; (with_reducible refine (HSE.out _ HDR.out).mono ?_); rintro e9 w9 ⟨rfl, hb⟩; have hb := undrew hb; have KK9 : Hid (w9.cell? ⟨g, 0, none⟩ = some (.bool true) ∧ w9.cell? ⟨g, 4, none⟩ = some (.int .i64 1) ∧ w9.cell? ⟨g, 5, none⟩ = some (.slice P2 1 p2) ∧ w9.cell? ⟨g, 6, none⟩ = some (.bool true) ∧ w9.cell? ⟨g, 7, none⟩ = some (.slice Q1 c.length q1) ∧ w9.cell? ⟨g, 8, none⟩ = some (.int .i32 3) ∧ w9.cell? ⟨g, 9, none⟩ = some (.bool true) ∧ w9.cell? ⟨w1.heap.size, 0, none⟩ = some (.slice A1 c.length c1) ∧ w9.cell? ⟨w1.heap.size, 1, none⟩ = some (.int .i32 3) ∧ w9.cell? ⟨w1.heap.size, 2, none⟩ = some (.bool true)) := Lib.hid (by obtain ⟨h0, h1, h2, h3, h4, h5, h6, h7, h8, h9⟩ := KK.out; exact ⟨keep_cell hb h0, keep_cell hb h1, keep_cell hb h2, keep_cell hb h3, keep_cell hb h4, keep_cell hb h5, keep_cell hb h6, keep_cell hb h7, keep_cell hb h8, keep_cell hb h9⟩); have HB9 := Lib.hid hb; clear hb)
    | fail)
  all_goals (go_wp2; go_ret; exact ⟨rfl, below_then HBT.out HBT.out.size HB9.out⟩)
end Go.Proofs.YtijbdinemjiepaaDoor
