/- impl.pbMessage. (Written by pbmgen.py.) -/
import Derived.Test.YtocdbecakefnnaaDoorMsP
namespace Go.Proofs.YtocdbecakefnnaaDoor
open Go.RowKit

def pentF (e : Ent) : List FV := [.lit (.string ⟨e.cid.toArray⟩), .lit (.int .i32 e.prio), .lit (.bool e.cancel), .lit (.int .i32 e.type), .lit (.bool e.dont)]
def ppreF (p : Pre) : List FV := [.lit (.string ⟨p.cid.toArray⟩), .lit (.int .i32 p.type)]
/-- A message of the package's, by value. -/
def PMsgV (w : World) (m : Msg) (v : Value) : Prop := ∃ e b p r, v = .agg #[e, .bool m.full, b, p, r, .int .i32 m.pending] ∧ RowF w 5 m.ents.length (m.ents.flatMap pentF) e ∧ RowF w 1 m.blocks.length (m.blocks.flatMap blkF) b ∧ RowF w 2 m.payload.length (m.payload.flatMap bloF) p ∧ RowF w 2 m.pres.length (m.pres.flatMap ppreF) r
/-- The blocks of the message in the making. -/
def GP (w : World) : Nat → Prop := fun k => k = w.heap.size ∨ k = w.heap.size + 1 ∨ k = w.heap.size + 2
abbrev PW (w W : World) (x : Msg) (e b p r : Value) (xe xb xp xr : List Value) : Prop :=
  M4 w W (w.heap.size + 2) (w.heap.size + 3) 61 99 32 101 104 (GP w) (.bool x.full) (.int .i32 x.pending) e b p r x.ents.length x.blocks.length x.payload.length x.pres.length (x.ents.flatMap pentF) (x.blocks.flatMap blkF) (x.payload.flatMap bloF) (x.pres.flatMap ppreF) xe xb xp xr
theorem infoPEnt : (Tryd.prog.info? 99).map (fun i => (i.zero, i.size, i.bytes)) = some (some (.agg #[.string ByteArray.empty, .int .i32 0, .bool false, .int .i32 0, .bool false]), 5, 32) := by kernel_rfl
theorem infoPBlo : (Tryd.prog.info? 101).map (fun i => (i.zero, i.size, i.bytes)) = some (some (.agg #[.slice none 0 0, .slice none 0 0]), 2, 48) := by kernel_rfl
theorem infoPPre : (Tryd.prog.info? 104).map (fun i => (i.zero, i.size, i.bytes)) = some (some (.agg #[.string ByteArray.empty, .int .i32 0]), 2, 24) := by kernel_rfl
theorem pw_e {w W : World} {x : Msg} {e b p r : Value} {xe xb xp xr : List Value} {en : Ent} (h : M4 w W (w.heap.size + 2) (w.heap.size + 3) 61 99 32 101 104 (GP w) (.bool x.full) (.int .i32 x.pending) e b p r (x.ents.length + 1) x.blocks.length x.payload.length x.pres.length (x.ents.flatMap pentF ++ pentF en) (x.blocks.flatMap blkF) (x.payload.flatMap bloF) (x.pres.flatMap ppreF) xe xb xp xr) : PW w W { x with ents := x.ents ++ [en] } e b p r xe xb xp xr := by
  show M4 _ _ _ _ _ _ _ _ _ _ _ _ _ _ _ _ (x.ents ++ [en]).length _ _ _ ((x.ents ++ [en]).flatMap pentF) _ _ _ _ _ _ _
  rw [List.length_append, flat_snoc]
  exact h
theorem pw_b {w W : World} {x : Msg} {e b p r : Value} {xe xb xp xr : List Value} {en : List UInt8} (h : M4 w W (w.heap.size + 2) (w.heap.size + 3) 61 99 32 101 104 (GP w) (.bool x.full) (.int .i32 x.pending) e b p r x.ents.length (x.blocks.length + 1) x.payload.length x.pres.length (x.ents.flatMap pentF) (x.blocks.flatMap blkF ++ blkF en) (x.payload.flatMap bloF) (x.pres.flatMap ppreF) xe xb xp xr) : PW w W { x with blocks := x.blocks ++ [en] } e b p r xe xb xp xr := by
  show M4 _ _ _ _ _ _ _ _ _ _ _ _ _ _ _ _ _ (x.blocks ++ [en]).length _ _ _ ((x.blocks ++ [en]).flatMap blkF) _ _ _ _ _ _
  rw [List.length_append, flat_snoc]
  exact h
theorem pw_p {w W : World} {x : Msg} {e b p r : Value} {xe xb xp xr : List Value} {en : Blo} (h : M4 w W (w.heap.size + 2) (w.heap.size + 3) 61 99 32 101 104 (GP w) (.bool x.full) (.int .i32 x.pending) e b p r x.ents.length x.blocks.length (x.payload.length + 1) x.pres.length (x.ents.flatMap pentF) (x.blocks.flatMap blkF) (x.payload.flatMap bloF ++ bloF en) (x.pres.flatMap ppreF) xe xb xp xr) : PW w W { x with payload := x.payload ++ [en] } e b p r xe xb xp xr := by
  show M4 _ _ _ _ _ _ _ _ _ _ _ _ _ _ _ _ _ _ (x.payload ++ [en]).length _ _ _ ((x.payload ++ [en]).flatMap bloF) _ _ _ _ _
  rw [List.length_append, flat_snoc]
  exact h
theorem pw_r {w W : World} {x : Msg} {e b p r : Value} {xe xb xp xr : List Value} {en : Pre} (h : M4 w W (w.heap.size + 2) (w.heap.size + 3) 61 99 32 101 104 (GP w) (.bool x.full) (.int .i32 x.pending) e b p r x.ents.length x.blocks.length x.payload.length (x.pres.length + 1) (x.ents.flatMap pentF) (x.blocks.flatMap blkF) (x.payload.flatMap bloF) (x.pres.flatMap ppreF ++ ppreF en) xe xb xp xr) : PW w W { x with pres := x.pres ++ [en] } e b p r xe xb xp xr := by
  show M4 _ _ _ _ _ _ _ _ _ _ _ _ _ _ _ _ _ _ _ (x.pres ++ [en]).length _ _ _ ((x.pres ++ [en]).flatMap ppreF) _ _ _ _
  rw [List.length_append, flat_snoc]
  exact h
/-- The blocks beside: the argument's copy, the result. -/
structure OB (w W : World) (cs zs : Array Value) : Prop where
  q : Blk W w.heap.size 30 cs
  z : Blk W (w.heap.size + 1) 61 zs
theorem OB.cell {w W : World} {cs zs : Array Value} (h : OB w W cs zs) (i : Nat) : W.cell? ⟨w.heap.size, i, none⟩ = cs[i]? := h.q.cell i
theorem OB.grow {w W0 W : World} {cs zs : Array Value} (h : OB w W0 cs zs) (hb : Below W0.heap.size W0 W) : OB w W cs zs := ⟨bkeep hb h.q, bkeep hb h.z⟩
theorem OB.app {w W W3 : World} {cs zs : Array Value} {r : Option Nat} (h : OB w W cs zs) (hg : W.grownBy W3 r) (hr : ∀ k, r = some k → w.heap.size + 3 ≤ k) (i : Nat) (u : Value) : OB w (W3.setCell ⟨w.heap.size + 2, i, none⟩ u) cs zs :=
  ⟨blk_set_far (h.q.grown hg (fun e => by have := hr _ e.symm; omega)) _ _ (by omega) u, blk_set_far (h.z.grown hg (fun e => by have := hr _ e.symm; omega)) _ _ (by omega) u⟩
theorem ob_start (w : World) (cs zs ts : Array Value) : OB w (((w.alloc (.cells cs 30)).alloc (.cells zs 61)).alloc (.cells ts 61)) cs zs := by
  refine ⟨((Blk.new w _ cs).alloc _).alloc _, ?_⟩
  have h := (Blk.new (w.alloc (.cells cs 30)) 61 zs).alloc (.cells ts 61)
  rw [World.size_alloc] at h
  exact h
theorem pw_start (w : World) (full : Bool) (o1 o2 : Obj) : PW w (((w.alloc o1).alloc o2).alloc (.cells #[.slice none 0 0, .bool full, .slice none 0 0, .slice none 0 0, .slice none 0 0, .int .i32 0] 61)) ⟨[], full, [], [], [], 0⟩ (.slice none 0 0) (.slice none 0 0) (.slice none 0 0) (.slice none 0 0) [] [] [] [] := by
  refine ⟨World.ownsRow_nil _ _ _ _, World.ownsRow_nil _ _ _ _, World.ownsRow_nil _ _ _ _, World.ownsRow_nil _ _ _ _, rfl, rfl, rfl, rfl, ?_, below_alloc (below_alloc (below_one w _) _) _, .inr (.inr rfl), fun k hk => ?_, Nat.le_add_right _ _, by simp⟩
  · have h := (Blk.new ((w.alloc o1).alloc o2) 61 #[.slice none 0 0, .bool full, .slice none 0 0, .slice none 0 0, .slice none 0 0, .int .i32 0])
    rw [World.size_alloc, World.size_alloc] at h
    exact h
  · rcases hk with rfl | rfl | rfl <;> omega
theorem frow_pent {W : World} {G : Nat → Prop} (q : Ent) : FRow W G (pentF q) [.string ⟨q.cid.toArray⟩, .int .i32 q.prio, .bool q.cancel, .int .i32 q.type, .bool q.dont] :=
  ⟨_, _, rfl, ⟨rfl, rfl⟩, _, _, rfl, ⟨rfl, rfl⟩, _, _, rfl, ⟨rfl, rfl⟩, _, _, rfl, ⟨rfl, rfl⟩, _, _, rfl, ⟨rfl, rfl⟩, rfl⟩
theorem frow_ppre {W : World} {G : Nat → Prop} (q : Pre) : FRow W G (ppreF q) [.string ⟨q.cid.toArray⟩, .int .i32 q.type] :=
  ⟨_, _, rfl, ⟨rfl, rfl⟩, _, _, rfl, ⟨rfl, rfl⟩, rfl⟩
theorem M4.pend {w W : World} {K B : Nat} {T te tb tp tr : TypeId} {G0 : Nat → Prop} {full pend : Value} {e b p r : Value} {ne nb np nr : Nat} {fe fb fp fr : List FV} {xe xb xp xr : List Value} (h : M4 w W K B T te tb tp tr G0 full pend e b p r ne nb np nr fe fb fp fr xe xb xp xr) (u : Value) :
    M4 w (W.setCell ⟨K, 5, none⟩ u) K B T te tb tp tr G0 full u e b p r ne nb np nr fe fb fp fr xe xb xp xr := by
  have hlt := (h.gb K h.g0).2
  have hg := only_set W K 5 u
  have hr : ∀ k', some K = some k' → G4 G0 e b p r k' := fun k' e2 => by injection e2 with e2; subst e2; exact .inl h.g0
  exact ⟨ownsRow_setCell_below h.oe (by show K < _; omega) u, ownsRow_setCell_below h.ob (by show K < _; omega) u, ownsRow_setCell_below h.op (by show K < _; omega) u, ownsRow_setCell_below h.or (by show K < _; omega) u,
    h.fe.turn hg hr (fun _ h => .inl h), h.fb.turn hg hr (fun _ h => .inl h), h.fp.turn hg hr (fun _ h => .inl h), h.fr.turn hg hr (fun _ h => .inl h), h.blk.set_ 5 u, h.bel.setCell (h.gb K h.g0).1 u, h.g0, h.gb, h.hb, Nat.le_trans h.hB hg.size⟩
theorem pw_set {w W : World} {x : Msg} {e b p r : Value} {xe xb xp xr : List Value} (h : PW w W x e b p r xe xb xp xr) (i : Nat) (u : Value) : PW w (W.setCell ⟨w.heap.size + 1, i, none⟩ u) x e b p r xe xb xp xr := M4.set_ h (w.heap.size + 1) i u (.inr (.inl rfl)) (by omega)
theorem pmsg_eq {w : World} {m x : Msg} {v : Value} (e : m = x) (h : PMsgV w x v) : PMsgV w m v := by rw [e]; exact h
theorem PW.val {w W : World} {x : Msg} {e b p r : Value} {xe xb xp xr : List Value} (h : PW w W x e b p r xe xb xp xr) : PMsgV W x (.agg #[e, .bool x.full, b, p, r, .int .i32 x.pending]) :=
  ⟨e, b, p, r, rfl, .of_own h.oe h.fe, .of_own h.ob h.fb, .of_own h.op h.fp, .of_own h.or h.fr⟩
set_option linter.unusedSimpArgs false in
set_option maxRecDepth 100000 in
set_option maxHeartbeats 8000000 in
theorem pbMessage_any (m : Msg) (v : Value) (w : World) (hv : MsgV w m v) (hce : ∀ q ∈ m.ents, Castable q.cid) (hcr : ∀ q ∈ m.pres, Castable q.cid) (hcb : ∀ q ∈ m.blocks, q.length ≤ 100000) (hcp : ∀ q ∈ m.payload, q.pre.length ≤ 100000 ∧ q.data.length ≤ 100000) (n1 : m.ents.length ≤ 40) (n2 : m.blocks.length ≤ 40) (n3 : m.payload.length ≤ 40) (n4 : m.pres.length ≤ 40) :
    Calls Tryd.prog 20 #[v] w fun e w' => ∃ u, e = .returned (.tuple #[u, .bool true]) ∧ PMsgV w' m u ∧ Below w.heap.size w w' := by
  obtain ⟨i1, hi1, ha0, ha1, ha2⟩ := info_parts infoPEnt
  obtain ⟨i2, hi2, hb0, hb1, hb2⟩ := info_parts infoByt
  obtain ⟨i3, hi3, hc0, hc1, hc2⟩ := info_parts infoPBlo
  obtain ⟨i4, hi4, hd0, hd1, hd2⟩ := info_parts infoPPre
  obtain ⟨De0, Db0, Dp0, Dr0, rfl, re, rb, rp, rr⟩ := hv
  obtain ⟨De, de, _, rfl, -, -, -⟩ := id re
  obtain ⟨Db, db, _, rfl, -, -, -⟩ := id rb
  obtain ⟨Dp, dp, _, rfl, -, -, -⟩ := id rp
  obtain ⟨Dr, dr, _, rfl, -, -, -⟩ := id rr
  have Re := Lib.hid re
  have Rb := Lib.hid rb
  have Rp := Lib.hid rp
  have Rr := Lib.hid rr
  have HCSe := Lib.hid hce
  have HCSr := Lib.hid hcr
  have HCSb := Lib.hid hcb
  have HCSp := Lib.hid hcp
  obtain ⟨cs, hcs⟩ : ∃ cs : Array Value, cs = #[.slice De m.ents.length de, .bool m.full, .slice Db m.blocks.length db, .slice Dp m.payload.length dp, .slice Dr m.pres.length dr, .int .i32 m.pending] := ⟨_, rfl⟩
  obtain ⟨zs, hzs⟩ : ∃ zs : Array Value, zs = #[.slice none 0 0, .bool false, .slice none 0 0, .slice none 0 0, .slice none 0 0, .int .i32 0] := ⟨_, rfl⟩
  have HO0 := Lib.hid (ob_start w cs zs #[.slice none 0 0, .bool m.full, .slice none 0 0, .slice none 0 0, .slice none 0 0, .int .i32 0])
  subst hcs hzs
  clear re rb rp rr hce hcr hcb hcp
  go_enter Tryd.func20, Tryd.ntmps20
  go_wp2
  go_loopw [24] (fun si wr => ∃ (j : Nat) (x : Msg) (e b p r : Value) (xe xb xp xr : List Value), j ≤ m.ents.length ∧ si = .int .i64 j ∧ Hid (x = ⟨m.ents.take j, m.full, [], [], [], 0⟩) ∧ Hid (PW w wr x e b p r xe xb xp xr) ∧ Hid (OB w wr #[.slice De m.ents.length de, .bool m.full, .slice Db m.blocks.length db, .slice Dp m.payload.length dp, .slice Dr m.pres.length dr, .int .i32 m.pending] #[.slice none 0 0, .bool false, .slice none 0 0, .slice none 0 0, .slice none 0 0, .int .i32 0])) (fun si _ => m.ents.length - (intOf si).toNat)
  case atStart => exact ⟨0, _, _, _, _, _, _, _, _, _, Nat.zero_le _, rfl, rfl, pw_start w m.full _ _, HO0.out⟩
  case round =>
    obtain ⟨j, x, e, b, p, r, xe, xb, xp, xr, hj, rfl, HX, HM, HO⟩ := hrel
    obtain ⟨Ae, ce, rfl, -, -⟩ := own_shape HM.out.oe
    obtain ⟨Ab, cb, rfl, -, -⟩ := own_shape HM.out.ob
    obtain ⟨Ap, cp, rfl, -, -⟩ := own_shape HM.out.op
    obtain ⟨Ar, cr, rfl, -, -⟩ := own_shape HM.out.or
    by_cases hlt : j < m.ents.length
    · obtain ⟨q, hq, htk⟩ : ∃ q, m.ents[j]? = some q ∧ m.ents.take (j + 1) = m.ents.take j ++ [q] := ⟨_, List.getElem?_eq_getElem hlt, List.take_succ_eq_append_getElem hlt⟩
      obtain ⟨bp, op, rfl, hbl, hcc⟩ := Re.out.field (F := entF) (s := 5) (fun _ => rfl) (by omega) HM.out.bel hq rfl
      have g1 : (j : Int) < (m.ents.length : Int) := by omega
      have hsz := HM.out.bel.size
      have hblr : bp < wr.heap.size := by omega
      have HXL : Hid (x.ents.length = j) := Lib.hid (by rw [HX.out]; show (List.take j _).length = j; rw [List.length_take]; omega)
      have HLN : Hid (x.ents.length ≤ 40) := Lib.hid (by have := HXL.out; omega)
      have NE : Hid (some (w.heap.size + 2) ≠ (Value.slice Ae x.ents.length ce).ownBlock) := Lib.hid (fun e2 => by have := own_base HM.out.oe _ e2.symm; omega)
      have NB : Hid (∀ k, (Value.slice Ae x.ents.length ce).ownBlock = some k → w.heap.size + 3 ≤ k) := Lib.hid (fun k hk => own_base HM.out.oe k hk)
      obtain ⟨u0, k0, f0⟩ := hcc 0 _ rfl
      obtain ⟨_, k1, rfl, _⟩ := hcc 1 _ rfl
      obtain ⟨_, k2, rfl, _⟩ := hcc 2 _ rfl
      obtain ⟨_, k3, rfl, _⟩ := hcc 3 _ rfl
      obtain ⟨_, k4, rfl, _⟩ := hcc 4 _ rfl
      obtain ⟨A1, c1, rfl, hq1, hr1, _⟩ := f0
      simp only [Nat.add_zero] at k0
      have HTK := Lib.hid htk
      have HCP := Lib.hid (fun W (hW : Below w.heap.size w W) => pbCid_any q.cid (HCSe.out q (List.mem_of_getElem? hq)) A1 c1 W (ron hr1 hW))
      have HM0 := Lib.hid (HM.out.grow (below_one wr (.cells #[.slice A1 q.cid.length c1, .int .i32 q.prio, .bool q.cancel, .int .i32 q.type, .bool q.dont] 50)))
      have HO0 := Lib.hid (HO.out.grow (below_one wr (.cells #[.slice A1 q.cid.length c1, .int .i32 q.prio, .bool q.cancel, .int .i32 q.type, .bool q.dont] 50)))
      have HP := Lib.hid (Blk.new wr 50 #[.slice A1 q.cid.length c1, .int .i32 q.prio, .bool q.cancel, .int .i32 q.type, .bool q.dont])
      clear hq htk hcc hr1
      go_wp2_with (first
        | (go_at_call 42; (with_reducible refine (HCP.out _ HM0.out.bel).mono ?_); clear HCP; rintro e1 w1 ⟨rfl, hb⟩; have HM1 := Lib.hid (HM0.out.grow hb); have HO1 := Lib.hid (HO0.out.grow hb); have hp := bkeep hb HP.out; have p1 : w1.cell? ⟨wr.heap.size, 1, none⟩ = some (.int .i32 q.prio) := hp.cell 1; have p2 : w1.cell? ⟨wr.heap.size, 2, none⟩ = some (.bool q.cancel) := hp.cell 2; have p3 : w1.cell? ⟨wr.heap.size, 3, none⟩ = some (.int .i32 q.type) := hp.cell 3; have p4 : w1.cell? ⟨wr.heap.size, 4, none⟩ = some (.bool q.dont) := hp.cell 4; have pl : wr.heap.size < w1.heap.size := hp.lt; have z0 : w1.cell? ⟨w.heap.size + 2, 0, none⟩ = some (.slice Ae x.ents.length ce) := HM1.out.blk.cell 0; have zl : w.heap.size + 2 < w1.heap.size := HM1.out.blk.lt; clear hb hp)
        | (at_builtin; refine wpList_append_any _ rfl (.tmp 39) (.tmp 50) 55 rfl (w.heap.size + 3) 99 i1 _ 5 32 Tryd.underlying55 hi1 ha0 ha1 ha2 rfl (by decide) (.slice Ae x.ents.length ce) x.ents.length xe rfl ((HM1.out.oe.alloc _).alloc _) _ _ 1 1 [.string ⟨q.cid.toArray⟩, .int .i32 q.prio, .bool q.cancel, .int .i32 q.type, .bool q.dont] rfl (lit_new2 w1 _ _ _ 5 rfl (by omega)) (by intro u hu; simp at hu; rcases hu with rfl | rfl | rfl | rfl | rfl <;> rfl) (by have := HLN.out; unfold maxLen; omega) (by have := HLN.out; omega) (by have := HM1.out.hB; simp; omega) ?_; rintro v3 w8 hown3 hg3 hat3 -; have HM3 := Lib.hid (HM1.out.appE (below_alloc (below_one w1 (.cells #[.string ⟨q.cid.toArray⟩] 94)) _) (frow_pent q) hown3 hg3 hat3 (by decide) (by decide) (by decide)); have hbk := (HM1.out.grow (below_alloc (below_one w1 (.cells #[.string ⟨q.cid.toArray⟩] 94)) _)).blk.grown hg3 NE.out; have HO3 := Lib.hid ((HO1.out.grow (below_alloc (below_one w1 (.cells #[.string ⟨q.cid.toArray⟩] 94)) _)).app hg3 NB.out 0 v3); have y0 : w8.cell? ⟨w.heap.size + 2, 0, none⟩ = some (.slice Ae x.ents.length ce) := hbk.cell 0; have yf : w8.frozen? ⟨w.heap.size + 2, 0, none⟩ = false := hbk.frozen 0; have yl : w.heap.size + 2 < w8.heap.size := hbk.lt; obtain ⟨A8, c8, rfl, -, -⟩ := own_shape hown3; clear hown3 hg3 hat3 hbk)
        | fail)
      go_roundw
      case rel => exact ⟨j + 1, { x with ents := x.ents ++ [q] }, _, _, _, _, _, _, _, _, by omega, by go_num, by show _ = _; rw [HX.out, HTK.out], pw_e HM3.out, HO3.out⟩
      case measure => simp [intOf]; omega
    · have g1 : ¬ (j : Int) < (m.ents.length : Int) := by omega
      have HXe : Hid (x = ⟨m.ents, m.full, [], [], [], 0⟩) := Lib.hid (by rw [HX.out, List.take_of_length_le (show m.ents.length ≤ j by omega)])
      have o0 : wr.cell? ⟨w.heap.size, 2, none⟩ = some (.slice Db m.blocks.length db) := HO.out.cell 2
      clear HX
      go_wp2
      go_loopw [58] (fun si wr => ∃ (j : Nat) (x : Msg) (e b p r : Value) (xe xb xp xr : List Value), j ≤ m.blocks.length ∧ si = .int .i64 j ∧ Hid (x = ⟨m.ents, m.full, m.blocks.take j, [], [], 0⟩) ∧ Hid (PW w wr x e b p r xe xb xp xr) ∧ Hid (OB w wr #[.slice De m.ents.length de, .bool m.full, .slice Db m.blocks.length db, .slice Dp m.payload.length dp, .slice Dr m.pres.length dr, .int .i32 m.pending] #[.slice none 0 0, .bool false, .slice none 0 0, .slice none 0 0, .slice none 0 0, .int .i32 0])) (fun si _ => m.blocks.length - (intOf si).toNat)
      case atStart => exact ⟨0, _, _, _, _, _, _, _, _, _, Nat.zero_le _, rfl, HXe.out, HM.out, HO.out⟩
      case round =>
        obtain ⟨j, x, e, b, p, r, xe, xb, xp, xr, hj, rfl, HX, HM, HO⟩ := hrel
        obtain ⟨Ae, ce, rfl, -, -⟩ := own_shape HM.out.oe
        obtain ⟨Ab, cb, rfl, -, -⟩ := own_shape HM.out.ob
        obtain ⟨Ap, cp, rfl, -, -⟩ := own_shape HM.out.op
        obtain ⟨Ar, cr, rfl, -, -⟩ := own_shape HM.out.or
        by_cases hlt : j < m.blocks.length
        · obtain ⟨q, hq, htk⟩ : ∃ q, m.blocks[j]? = some q ∧ m.blocks.take (j + 1) = m.blocks.take j ++ [q] := ⟨_, List.getElem?_eq_getElem hlt, List.take_succ_eq_append_getElem hlt⟩
          obtain ⟨bp, op, rfl, hbl, hcc⟩ := Rb.out.field (F := blkF) (s := 1) (fun _ => rfl) (by omega) HM.out.bel hq rfl
          have g1 : (j : Int) < (m.blocks.length : Int) := by omega
          have hsz := HM.out.bel.size
          have hblr : bp < wr.heap.size := by omega
          have HXL : Hid (x.blocks.length = j) := Lib.hid (by rw [HX.out]; show (List.take j _).length = j; rw [List.length_take]; omega)
          have HLN : Hid (x.blocks.length ≤ 40) := Lib.hid (by have := HXL.out; omega)
          have NE : Hid (some (w.heap.size + 2) ≠ (Value.slice Ab x.blocks.length cb).ownBlock) := Lib.hid (fun e2 => by have := own_base HM.out.ob _ e2.symm; omega)
          have NB : Hid (∀ k, (Value.slice Ab x.blocks.length cb).ownBlock = some k → w.heap.size + 3 ≤ k) := Lib.hid (fun k hk => own_base HM.out.ob k hk)
          obtain ⟨u0, k0, f0⟩ := hcc 0 _ rfl
          obtain ⟨A1, c1, rfl, hq1, hr1, _⟩ := f0
          have HTK := Lib.hid htk
          have hqs := HCSb.out q (List.mem_of_getElem? hq)
          have HCL := Lib.hid (fun W (hW : Below w.heap.size w W) => clone_u8 A1 q.length c1 _ (u8s q) W (ron hr1 hW) (u8s_one q) (by omega) (Nat.le_refl _))
          simp only [Nat.add_zero, Nat.mul_one] at k0
          have z0 := HM.out.blk.cell 2
          have zl := HM.out.blk.lt
          clear hq htk hcc hr1
          go_wp2_with fail
          refine wp_region_L 7 (fun w' => w'.cell? ⟨w.heap.size + 2, 2, none⟩ = some (.slice Ab x.blocks.length cb)) (by kernel_rfl) z0 (fun hHeld => ?_)
          refine wpAnyL_take (i := 0) (v := ?_) rfl (by kernel_rfl) (by kernel_rfl) (by kernel_rfl) (by kernel_rfl) (fun _ _ _ h => h) (Or.inl ⟨by rfl, ?_⟩) hHeld ?_
          rotate_left 1
          · (intro w0 hSw; (try dsimp only at hSw); go_simp; try (with_reducible rfl))
          simp only [Act.put, List.setIfInBounds_toArray, List.set_cons_zero, List.set_cons_succ]
          refine wpAnyL_take (i := 1) (v := ?_) rfl (by kernel_rfl) (by kernel_rfl) (by kernel_rfl) (by kernel_rfl) (fun _ _ _ h => h) (Or.inl ⟨by rfl, ?_⟩) hHeld ?_
          rotate_left 1
          · (intro w0 hSw; (try dsimp only at hSw); go_simp; try (with_reducible rfl))
          simp only [Act.put, List.setIfInBounds_toArray, List.set_cons_zero, List.set_cons_succ]
          refine wpAnyL_take (i := 2) (v := ?_) rfl (by kernel_rfl) (by kernel_rfl) (by kernel_rfl) (by kernel_rfl) (fun _ _ _ h => h) (Or.inl ⟨by rfl, ?_⟩) hHeld ?_
          rotate_left 1
          · (intro w0 hSw; (try dsimp only at hSw); go_simp; try (with_reducible rfl))
          simp only [Act.put, List.setIfInBounds_toArray, List.set_cons_zero, List.set_cons_succ]
          refine wpAnyL_one (i := 3) (by kernel_rfl) rfl (by rfl) (fun K hK => ?_)
          go_simp
          go_at_call 29
          (with_reducible refine (HCL.out _ HM.out.bel.drew).mono ?_)
          rintro e1 w1 ⟨⟨v, rfl, ho, _⟩, hb⟩
          obtain ⟨Ai, ci, rfl, -, -⟩ := own_shape ho
          have HIN := Lib.hid (in_own ho (fun k hk => (HM.out.high k hk).2))
          have hb := undrew hb
          have HM1 := Lib.hid (HM.out.grow hb)
          have HO1 := Lib.hid (HO.out.grow hb)
          clear ho hb z0 zl hHeld
          refine hK.out _ _ (fun _ => HM1.out.blk.cell 2) (fun hHeld0 => ?_)
          clear hK K
          have hHeld := hHeld0 (by decide)
          clear hHeld0
          (try simp only [Act.put, List.setIfInBounds_toArray, List.set_cons_zero, List.set_cons_succ])
          refine wpAnyL_one (i := 4) (by kernel_rfl) rfl (by rfl) (fun K hK => ?_)
          go_simp
          refine hK.out _ _ (fun _ => (HM1.out.blk.alloc _).cell 2) (fun hHeld0 => ?_)
          clear hK K
          have hHeld := hHeld0 (by decide)
          clear hHeld0
          (try simp only [Act.put, List.setIfInBounds_toArray, List.set_cons_zero, List.set_cons_succ])
          refine wpAnyL_one (i := 5) (by kernel_rfl) rfl (by rfl) (fun K hK => ?_)
          refine oper_append_row _ (.tmp 63) (.tmp 66) 26 (by rfl) (w.heap.size + 3) 32 i2 _ 1 24 Tryd.underlying26 hi2 hb0 hb1 hb2 rfl (by decide) (.slice Ab x.blocks.length cb) x.blocks.length xb (by rfl) (HM1.out.ob.alloc _) _ _ 1 1 [.slice Ai q.length ci] (by rfl) (lit_new _ _ _ 1 rfl (by omega)) (by intro u hu; simp at hu; subst hu; rfl) (by have := HLN.out; unfold maxLen; omega) (by have := HLN.out; omega) (by have := HM1.out.hB; simp; omega) ?_
          intro v3 w8 hown3 hg3 hat3
          have HM3 := Lib.hid (HM1.out.appB (below_one w1 _) (frow_blk (in_below HIN.out (below_one _ _))) hown3 hg3 hat3 (by decide) (by decide) (by decide))
          have hbk := (HM1.out.grow (below_one w1 _)).blk.grown hg3 NE.out
          have HO3 := Lib.hid ((HO1.out.grow (below_one w1 _)).app hg3 NB.out 2 v3)
          have y0 : w8.cell? ⟨w.heap.size + 2, 2, none⟩ = some (.slice Ab x.blocks.length cb) := hbk.cell 2
          have yf : w8.frozen? ⟨w.heap.size + 2, 2, none⟩ = false := hbk.frozen 2
          have yl : w.heap.size + 2 < w8.heap.size := hbk.lt
          obtain ⟨A8, c8, rfl, -, -⟩ := own_shape hown3
          clear hown3 hg3 hat3 hbk hHeld
          refine hK.out _ _ (fun _ => y0) (fun hHeld0 => ?_)
          clear hK K
          have hHeld := hHeld0 (by decide)
          clear hHeld0
          (try simp only [Act.put, List.setIfInBounds_toArray, List.set_cons_zero, List.set_cons_succ])
          refine wpAnyL_take (i := 6) (v := ?_) rfl (by kernel_rfl) (by kernel_rfl) (by kernel_rfl) (by kernel_rfl) (fun _ _ _ h => h) (Or.inl ⟨by rfl, ?_⟩) hHeld ?_
          rotate_left 1
          · (intro w0 hSw; (try dsimp only at hSw); go_simp; try (with_reducible rfl))
          simp only [Act.put, List.setIfInBounds_toArray, List.set_cons_zero, List.set_cons_succ]
          refine wpAnyL_one (i := 7) (by kernel_rfl) rfl (by rfl) (fun K hK => ?_)
          go_simp
          refine hK.out _ _ (fun h => absurd rfl h) (fun _ => ?_)
          clear hK K
          refine wpAnyL_done (by kernel_rfl) ?_
          go_wp2
          go_roundw
          case rel => exact ⟨j + 1, { x with blocks := x.blocks ++ [q] }, _, _, _, _, _, _, _, _, by omega, by go_num, by show _ = _; rw [HX.out, HTK.out], pw_b HM3.out, HO3.out⟩
          case measure => simp [intOf]; omega
        · have g1 : ¬ (j : Int) < (m.blocks.length : Int) := by omega
          have HXb : Hid (x = ⟨m.ents, m.full, m.blocks, [], [], 0⟩) := Lib.hid (by rw [HX.out, List.take_of_length_le (show m.blocks.length ≤ j by omega)])
          have o0 : wr.cell? ⟨w.heap.size, 3, none⟩ = some (.slice Dp m.payload.length dp) := HO.out.cell 3
          clear HX
          go_wp2
          go_loopw [73] (fun si wr => ∃ (j : Nat) (x : Msg) (e b p r : Value) (xe xb xp xr : List Value), j ≤ m.payload.length ∧ si = .int .i64 j ∧ Hid (x = ⟨m.ents, m.full, m.blocks, m.payload.take j, [], 0⟩) ∧ Hid (PW w wr x e b p r xe xb xp xr) ∧ Hid (OB w wr #[.slice De m.ents.length de, .bool m.full, .slice Db m.blocks.length db, .slice Dp m.payload.length dp, .slice Dr m.pres.length dr, .int .i32 m.pending] #[.slice none 0 0, .bool false, .slice none 0 0, .slice none 0 0, .slice none 0 0, .int .i32 0])) (fun si _ => m.payload.length - (intOf si).toNat)
          case atStart => exact ⟨0, _, _, _, _, _, _, _, _, _, Nat.zero_le _, rfl, HXb.out, HM.out, HO.out⟩
          case round =>
            obtain ⟨j, x, e, b, p, r, xe, xb, xp, xr, hj, rfl, HX, HM, HO⟩ := hrel
            obtain ⟨Ae, ce, rfl, -, -⟩ := own_shape HM.out.oe
            obtain ⟨Ab, cb, rfl, -, -⟩ := own_shape HM.out.ob
            obtain ⟨Ap, cp, rfl, -, -⟩ := own_shape HM.out.op
            obtain ⟨Ar, cr, rfl, -, -⟩ := own_shape HM.out.or
            by_cases hlt : j < m.payload.length
            · obtain ⟨q, hq, htk⟩ : ∃ q, m.payload[j]? = some q ∧ m.payload.take (j + 1) = m.payload.take j ++ [q] := ⟨_, List.getElem?_eq_getElem hlt, List.take_succ_eq_append_getElem hlt⟩
              obtain ⟨bp, op, rfl, hbl, hcc⟩ := Rp.out.field (F := bloF) (s := 2) (fun _ => rfl) (by omega) HM.out.bel hq rfl
              have g1 : (j : Int) < (m.payload.length : Int) := by omega
              have hsz := HM.out.bel.size
              have hblr : bp < wr.heap.size := by omega
              have HXL : Hid (x.payload.length = j) := Lib.hid (by rw [HX.out]; show (List.take j _).length = j; rw [List.length_take]; omega)
              have HLN : Hid (x.payload.length ≤ 40) := Lib.hid (by have := HXL.out; omega)
              have NE : Hid (some (w.heap.size + 2) ≠ (Value.slice Ap x.payload.length cp).ownBlock) := Lib.hid (fun e2 => by have := own_base HM.out.op _ e2.symm; omega)
              have NB : Hid (∀ k, (Value.slice Ap x.payload.length cp).ownBlock = some k → w.heap.size + 3 ≤ k) := Lib.hid (fun k hk => own_base HM.out.op k hk)
              obtain ⟨u0, k0, f0⟩ := hcc 0 _ rfl
              obtain ⟨u1, k1, f1⟩ := hcc 1 _ rfl
              obtain ⟨A1, c1, rfl, hq1, hr1, _⟩ := f0
              simp only [Nat.add_zero] at k0
              obtain ⟨A2, c2, rfl, hq2, hr2, _⟩ := f1
              have HTK := Lib.hid htk
              have hqs := HCSp.out q (List.mem_of_getElem? hq)
              have HCL := Lib.hid (fun W (hW : Below w.heap.size w W) => clone_u8 A1 q.pre.length c1 _ (u8s q.pre) W (ron hr1 hW) (u8s_one q.pre) (by omega) (Nat.le_refl _))
              have HCL2 := Lib.hid (fun W (hW : Below w.heap.size w W) => clone_u8 A2 q.data.length c2 _ (u8s q.data) W (ron hr2 hW) (u8s_one q.data) (by omega) (Nat.le_refl _))
              have HM0 := Lib.hid (HM.out.grow (below_one wr (.cells #[.slice A1 q.pre.length c1, .slice A2 q.data.length c2] 52)))
              have HO0 := Lib.hid (HO.out.grow (below_one wr (.cells #[.slice A1 q.pre.length c1, .slice A2 q.data.length c2] 52)))
              have HP := Lib.hid (Blk.new wr 52 #[.slice A1 q.pre.length c1, .slice A2 q.data.length c2])
              have z0 := HM0.out.blk.cell 3
              have zl := HM0.out.blk.lt
              have NEP : Hid (some wr.heap.size ≠ (Value.slice Ap x.payload.length cp).ownBlock) := Lib.hid (fun e2 => by have := (HM.out.op.lt _ e2.symm).2; omega)
              clear hq htk hcc hr1 hr2
              go_wp2_with fail
              refine wp_region_L 12 (fun w' => w'.cell? ⟨w.heap.size + 2, 3, none⟩ = some (.slice Ap x.payload.length cp) ∧ w'.cell? ⟨wr.heap.size, 0, none⟩ = some (.slice A1 q.pre.length c1) ∧ w'.cell? ⟨wr.heap.size, 1, none⟩ = some (.slice A2 q.data.length c2)) (by kernel_rfl) ⟨z0, HP.out.cell 0, HP.out.cell 1⟩ (fun hHeld => ?_)
              refine wpAnyL_take (i := 0) (v := ?_) rfl (by kernel_rfl) (by kernel_rfl) (by kernel_rfl) (by kernel_rfl) (fun _ _ _ h => h) (Or.inl ⟨by rfl, ?_⟩) hHeld ?_
              rotate_left 1
              · (intro w0 hSw; (try dsimp only at hSw); go_simp; try (with_reducible rfl))
              simp only [Act.put, List.setIfInBounds_toArray, List.set_cons_zero, List.set_cons_succ]
              refine wpAnyL_take (i := 1) (v := ?_) rfl (by kernel_rfl) (by kernel_rfl) (by kernel_rfl) (by kernel_rfl) (fun _ _ _ h => h) (Or.inl ⟨by rfl, ?_⟩) hHeld ?_
              rotate_left 1
              · (intro w0 hSw; (try dsimp only at hSw); go_simp; try (with_reducible rfl))
              simp only [Act.put, List.setIfInBounds_toArray, List.set_cons_zero, List.set_cons_succ]
              refine wpAnyL_take (i := 2) (v := ?_) rfl (by kernel_rfl) (by kernel_rfl) (by kernel_rfl) (by kernel_rfl) (fun _ _ _ h => h) (Or.inl ⟨by rfl, ?_⟩) hHeld ?_
              rotate_left 1
              · (intro w0 hSw; (try dsimp only at hSw); go_simp; try (with_reducible rfl))
              simp only [Act.put, List.setIfInBounds_toArray, List.set_cons_zero, List.set_cons_succ]
              refine wpAnyL_take (i := 3) (v := ?_) rfl (by kernel_rfl) (by kernel_rfl) (by kernel_rfl) (by kernel_rfl) (fun _ _ _ h => h) (Or.inl ⟨by rfl, ?_⟩) hHeld ?_
              rotate_left 1
              · (intro w0 hSw; (try dsimp only at hSw); go_simp; try (with_reducible rfl))
              simp only [Act.put, List.setIfInBounds_toArray, List.set_cons_zero, List.set_cons_succ]
              refine wpAnyL_take (i := 5) (v := ?_) rfl (by kernel_rfl) (by kernel_rfl) (by kernel_rfl) (by kernel_rfl) (fun _ _ _ h => h) (Or.inl ⟨by rfl, ?_⟩) hHeld ?_
              rotate_left 1
              · (intro w0 hSw; (try dsimp only at hSw); go_simp; try (with_reducible rfl))
              simp only [Act.put, List.setIfInBounds_toArray, List.set_cons_zero, List.set_cons_succ]
              refine wpAnyL_take (i := 6) (v := ?_) rfl (by kernel_rfl) (by kernel_rfl) (by kernel_rfl) (by kernel_rfl) (fun _ _ _ h => h) (Or.inl ⟨by rfl, ?_⟩) hHeld ?_
              rotate_left 1
              · (intro w0 hSw; (try dsimp only at hSw); go_simp; try (with_reducible rfl))
              simp only [Act.put, List.setIfInBounds_toArray, List.set_cons_zero, List.set_cons_succ]
              refine wpAnyL_one (i := 4) (by kernel_rfl) rfl (by rfl) (fun K hK => ?_)
              go_simp
              go_at_call 29
              (with_reducible refine (HCL.out _ HM0.out.bel.drew).mono ?_)
              rintro e1 w1 ⟨⟨v, rfl, ho, _⟩, hb⟩
              obtain ⟨Ai, ci, rfl, -, -⟩ := own_shape ho
              have HIN := Lib.hid (in_own ho (fun k hk => (HM0.out.high k hk).2))
              have hb := undrew hb
              have HM1 := Lib.hid (HM0.out.grow hb)
              have HO1 := Lib.hid (HO0.out.grow hb)
              have HP1 := Lib.hid (bkeep hb HP.out)
              clear ho hb z0 zl hHeld
              refine hK.out _ _ (fun _ => ⟨HM1.out.blk.cell 3, HP1.out.cell 0, HP1.out.cell 1⟩) (fun hHeld0 => ?_)
              clear hK K
              have hHeld := hHeld0 (by decide)
              clear hHeld0
              (try simp only [Act.put, List.setIfInBounds_toArray, List.set_cons_zero, List.set_cons_succ])
              refine wpAnyL_one (i := 7) (by kernel_rfl) rfl (by rfl) (fun K hK => ?_)
              go_simp
              go_at_call 29
              (with_reducible refine (HCL2.out _ HM1.out.bel).mono ?_)
              rintro e2 w2 ⟨⟨v, rfl, ho, _⟩, hb⟩
              obtain ⟨Aj, cj, rfl, -, -⟩ := own_shape ho
              have HIN2 := Lib.hid (in_own ho (fun k hk => (HM1.out.high k hk).2))
              have HIN1 := Lib.hid (in_below HIN.out hb)
              have HM2 := Lib.hid (HM1.out.grow hb)
              have HO2 := Lib.hid (HO1.out.grow hb)
              have HP2 := Lib.hid (bkeep hb HP1.out)
              clear ho hb hHeld
              refine hK.out _ _ (fun _ => ⟨HM2.out.blk.cell 3, HP2.out.cell 0, HP2.out.cell 1⟩) (fun hHeld0 => ?_)
              clear hK K
              have hHeld := hHeld0 (by decide)
              clear hHeld0
              (try simp only [Act.put, List.setIfInBounds_toArray, List.set_cons_zero, List.set_cons_succ])
              refine wpAnyL_take (i := 8) (v := ?_) rfl (by kernel_rfl) (by kernel_rfl) (by kernel_rfl) (by kernel_rfl) (fun _ _ _ h => h) (Or.inl ⟨by rfl, ?_⟩) hHeld ?_
              rotate_left 1
              · (intro w0 hSw; (try dsimp only at hSw); go_simp; try (with_reducible rfl))
              simp only [Act.put, List.setIfInBounds_toArray, List.set_cons_zero, List.set_cons_succ]
              refine wpAnyL_one (i := 9) (by kernel_rfl) rfl (by rfl) (fun K hK => ?_)
              go_simp
              refine hK.out _ _ (fun _ => ⟨(HM2.out.blk.alloc _).cell 3, (HP2.out.alloc _).cell 0, (HP2.out.alloc _).cell 1⟩) (fun hHeld0 => ?_)
              clear hK K
              have hHeld := hHeld0 (by decide)
              clear hHeld0
              (try simp only [Act.put, List.setIfInBounds_toArray, List.set_cons_zero, List.set_cons_succ])
              refine wpAnyL_one (i := 10) (by kernel_rfl) rfl (by rfl) (fun K hK => ?_)
              refine oper_append_row _ (.tmp 78) (.tmp 86) 58 (by rfl) (w.heap.size + 3) 101 i3 _ 2 48 Tryd.underlying58 hi3 hc0 hc1 hc2 rfl (by decide) (.slice Ap x.payload.length cp) x.payload.length xp (by rfl) (HM2.out.op.alloc _) _ _ 1 1 [.slice Ai q.pre.length ci, .slice Aj q.data.length cj] (by rfl) (lit_new _ _ _ 2 rfl (by omega)) (by intro u hu; simp at hu; rcases hu with rfl | rfl <;> rfl) (by have := HLN.out; unfold maxLen; omega) (by have := HLN.out; omega) (by have := HM2.out.hB; simp; omega) ?_
              intro v3 w8 hown3 hg3 hat3
              have HM3 := Lib.hid (HM2.out.appP (below_one w2 _) (frow_blo (in_below HIN1.out (below_one _ _)) (in_below HIN2.out (below_one _ _))) hown3 hg3 hat3 (by decide) (by decide) (by decide))
              have hbk := (HM2.out.grow (below_one w2 _)).blk.grown hg3 NE.out
              have HO3 := Lib.hid ((HO2.out.grow (below_one w2 _)).app hg3 NB.out 3 v3)
              have y0 : w8.cell? ⟨w.heap.size + 2, 3, none⟩ = some (.slice Ap x.payload.length cp) := hbk.cell 3
              have yf : w8.frozen? ⟨w.heap.size + 2, 3, none⟩ = false := hbk.frozen 3
              have yl : w.heap.size + 2 < w8.heap.size := hbk.lt
              obtain ⟨A8, c8, rfl, -, -⟩ := own_shape hown3
              have HP8 := Lib.hid ((HP2.out.alloc _).grown hg3 NEP.out)
              clear hown3 hg3 hat3 hbk hHeld
              refine hK.out _ _ (fun _ => ⟨y0, HP8.out.cell 0, HP8.out.cell 1⟩) (fun hHeld0 => ?_)
              clear hK K
              have hHeld := hHeld0 (by decide)
              clear hHeld0
              (try simp only [Act.put, List.setIfInBounds_toArray, List.set_cons_zero, List.set_cons_succ])
              refine wpAnyL_take (i := 11) (v := ?_) rfl (by kernel_rfl) (by kernel_rfl) (by kernel_rfl) (by kernel_rfl) (fun _ _ _ h => h) (Or.inl ⟨by rfl, ?_⟩) hHeld ?_
              rotate_left 1
              · (intro w0 hSw; (try dsimp only at hSw); go_simp; try (with_reducible rfl))
              simp only [Act.put, List.setIfInBounds_toArray, List.set_cons_zero, List.set_cons_succ]
              refine wpAnyL_one (i := 12) (by kernel_rfl) rfl (by rfl) (fun K hK => ?_)
              go_simp
              refine hK.out _ _ (fun h => absurd rfl h) (fun _ => ?_)
              clear hK K
              refine wpAnyL_done (by kernel_rfl) ?_
              go_wp2
              go_roundw
              case rel => exact ⟨j + 1, { x with payload := x.payload ++ [q] }, _, _, _, _, _, _, _, _, by omega, by go_num, by show _ = _; rw [HX.out, HTK.out], pw_p HM3.out, HO3.out⟩
              case measure => simp [intOf]; omega
            · have g1 : ¬ (j : Int) < (m.payload.length : Int) := by omega
              have HXp : Hid (x = ⟨m.ents, m.full, m.blocks, m.payload, [], 0⟩) := Lib.hid (by rw [HX.out, List.take_of_length_le (show m.payload.length ≤ j by omega)])
              have o0 : wr.cell? ⟨w.heap.size, 4, none⟩ = some (.slice Dr m.pres.length dr) := HO.out.cell 4
              clear HX
              go_wp2
              go_loopw [93] (fun si wr => ∃ (j : Nat) (x : Msg) (e b p r : Value) (xe xb xp xr : List Value), j ≤ m.pres.length ∧ si = .int .i64 j ∧ Hid (x = ⟨m.ents, m.full, m.blocks, m.payload, m.pres.take j, 0⟩) ∧ Hid (PW w wr x e b p r xe xb xp xr) ∧ Hid (OB w wr #[.slice De m.ents.length de, .bool m.full, .slice Db m.blocks.length db, .slice Dp m.payload.length dp, .slice Dr m.pres.length dr, .int .i32 m.pending] #[.slice none 0 0, .bool false, .slice none 0 0, .slice none 0 0, .slice none 0 0, .int .i32 0])) (fun si _ => m.pres.length - (intOf si).toNat)
              case atStart => exact ⟨0, _, _, _, _, _, _, _, _, _, Nat.zero_le _, rfl, HXp.out, HM.out, HO.out⟩
              case round =>
                obtain ⟨j, x, e, b, p, r, xe, xb, xp, xr, hj, rfl, HX, HM, HO⟩ := hrel
                obtain ⟨Ae, ce, rfl, -, -⟩ := own_shape HM.out.oe
                obtain ⟨Ab, cb, rfl, -, -⟩ := own_shape HM.out.ob
                obtain ⟨Ap, cp, rfl, -, -⟩ := own_shape HM.out.op
                obtain ⟨Ar, cr, rfl, -, -⟩ := own_shape HM.out.or
                by_cases hlt : j < m.pres.length
                · obtain ⟨q, hq, htk⟩ : ∃ q, m.pres[j]? = some q ∧ m.pres.take (j + 1) = m.pres.take j ++ [q] := ⟨_, List.getElem?_eq_getElem hlt, List.take_succ_eq_append_getElem hlt⟩
                  obtain ⟨bp, op, rfl, hbl, hcc⟩ := Rr.out.field (F := preF) (s := 2) (fun _ => rfl) (by omega) HM.out.bel hq rfl
                  have g1 : (j : Int) < (m.pres.length : Int) := by omega
                  have hsz := HM.out.bel.size
                  have hblr : bp < wr.heap.size := by omega
                  have HXL : Hid (x.pres.length = j) := Lib.hid (by rw [HX.out]; show (List.take j _).length = j; rw [List.length_take]; omega)
                  have HLN : Hid (x.pres.length ≤ 40) := Lib.hid (by have := HXL.out; omega)
                  have NE : Hid (some (w.heap.size + 2) ≠ (Value.slice Ar x.pres.length cr).ownBlock) := Lib.hid (fun e2 => by have := own_base HM.out.or _ e2.symm; omega)
                  have NB : Hid (∀ k, (Value.slice Ar x.pres.length cr).ownBlock = some k → w.heap.size + 3 ≤ k) := Lib.hid (fun k hk => own_base HM.out.or k hk)
                  obtain ⟨u0, k0, f0⟩ := hcc 0 _ rfl
                  obtain ⟨_, k1, rfl, _⟩ := hcc 1 _ rfl
                  obtain ⟨A1, c1, rfl, hq1, hr1, _⟩ := f0
                  simp only [Nat.add_zero] at k0
                  have HTK := Lib.hid htk
                  have HCP := Lib.hid (fun W (hW : Below w.heap.size w W) => pbCid_any q.cid (HCSr.out q (List.mem_of_getElem? hq)) A1 c1 W (ron hr1 hW))
                  have HM0 := Lib.hid (HM.out.grow (below_one wr (.cells #[.slice A1 q.cid.length c1, .int .i32 q.type] 54)))
                  have HO0 := Lib.hid (HO.out.grow (below_one wr (.cells #[.slice A1 q.cid.length c1, .int .i32 q.type] 54)))
                  have HP := Lib.hid (Blk.new wr 54 #[.slice A1 q.cid.length c1, .int .i32 q.type])
                  clear hq htk hcc hr1
                  go_wp2_with (first
                    | (go_at_call 42; (with_reducible refine (HCP.out _ HM0.out.bel).mono ?_); clear HCP; rintro e1 w1 ⟨rfl, hb⟩; have HM1 := Lib.hid (HM0.out.grow hb); have HO1 := Lib.hid (HO0.out.grow hb); have hp := bkeep hb HP.out; have p1 : w1.cell? ⟨wr.heap.size, 1, none⟩ = some (.int .i32 q.type) := hp.cell 1; have pl : wr.heap.size < w1.heap.size := hp.lt; have z0 : w1.cell? ⟨w.heap.size + 2, 4, none⟩ = some (.slice Ar x.pres.length cr) := HM1.out.blk.cell 4; have zl : w.heap.size + 2 < w1.heap.size := HM1.out.blk.lt; clear hb hp)
                    | (at_builtin; refine wpList_append_any _ rfl (.tmp 107) (.tmp 112) 59 rfl (w.heap.size + 3) 104 i4 _ 2 24 Tryd.underlying59 hi4 hd0 hd1 hd2 rfl (by decide) (.slice Ar x.pres.length cr) x.pres.length xr rfl ((HM1.out.or.alloc _).alloc _) _ _ 1 1 [.string ⟨q.cid.toArray⟩, .int .i32 q.type] rfl (lit_new2 w1 _ _ _ 2 rfl (by omega)) (by intro u hu; simp at hu; rcases hu with rfl | rfl <;> rfl) (by have := HLN.out; unfold maxLen; omega) (by have := HLN.out; omega) (by have := HM1.out.hB; simp; omega) ?_; rintro v3 w8 hown3 hg3 hat3 -; have HM3 := Lib.hid (HM1.out.appR (below_alloc (below_one w1 (.cells #[.string ⟨q.cid.toArray⟩] 94)) _) (frow_ppre q) hown3 hg3 hat3 (by decide) (by decide) (by decide)); have hbk := (HM1.out.grow (below_alloc (below_one w1 (.cells #[.string ⟨q.cid.toArray⟩] 94)) _)).blk.grown hg3 NE.out; have HO3 := Lib.hid ((HO1.out.grow (below_alloc (below_one w1 (.cells #[.string ⟨q.cid.toArray⟩] 94)) _)).app hg3 NB.out 4 v3); have y0 : w8.cell? ⟨w.heap.size + 2, 4, none⟩ = some (.slice Ar x.pres.length cr) := hbk.cell 4; have yf : w8.frozen? ⟨w.heap.size + 2, 4, none⟩ = false := hbk.frozen 4; have yl : w.heap.size + 2 < w8.heap.size := hbk.lt; obtain ⟨A8, c8, rfl, -, -⟩ := own_shape hown3; clear hown3 hg3 hat3 hbk)
                    | fail)
                  go_roundw
                  case rel => exact ⟨j + 1, { x with pres := x.pres ++ [q] }, _, _, _, _, _, _, _, _, by omega, by go_num, by show _ = _; rw [HX.out, HTK.out], pw_r HM3.out, HO3.out⟩
                  case measure => simp [intOf]; omega
                · have g1 : ¬ (j : Int) < (m.pres.length : Int) := by omega
                  have HXr : Hid (x = ⟨m.ents, m.full, m.blocks, m.payload, m.pres, 0⟩) := Lib.hid (by rw [HX.out, List.take_of_length_le (show m.pres.length ≤ j by omega)])
                  clear HX
                  have HXF : Hid (m = { x with pending := m.pending }) := Lib.hid (by rw [HXr.out])
                  have s0 : wr.cell? ⟨w.heap.size, 5, none⟩ = some (.int .i32 m.pending) := HO.out.cell 5
                  have q0 := HM.out.blk.cell 0
                  have q1 := HM.out.blk.cell 1
                  have q2 := HM.out.blk.cell 2
                  have q3 := HM.out.blk.cell 3
                  have q4 := HM.out.blk.cell 4
                  have q5 := HM.out.blk.cell 5
                  have qf := HM.out.blk.frozen 5
                  have ql := HM.out.blk.lt
                  have y0 := HO.out.z.cell 0
                  have y1 := HO.out.z.cell 1
                  have y2 := HO.out.z.cell 2
                  have y3 := HO.out.z.cell 3
                  have y4 := HO.out.z.cell 4
                  have y5 := HO.out.z.cell 5
                  have f0 := HO.out.z.frozen 0
                  have f1 := HO.out.z.frozen 1
                  have f2 := HO.out.z.frozen 2
                  have f3 := HO.out.z.frozen 3
                  have f4 := HO.out.z.frozen 4
                  have f5 := HO.out.z.frozen 5
                  have yl := HO.out.z.lt
                  go_wp2
                  (try simp only [Exit.inBlock, Exit.then])
                  have hz := blk_set_far HO.out.z (w.heap.size + 2) 5 (by omega) (.int .i32 m.pending)
                  refine bodyPost_ret (results_cell_then rfl _ _ _ _ _ _ _ rfl (show Blk _ _ _ _ by with_reducible exact fin6 hz _ _ _ _ _ _) Tryd.underlying61 rfl (by kernel_rfl)) rfl ?_
                  have hp : PW w (wr.setCell ⟨w.heap.size + 2, 5, none⟩ (.int .i32 m.pending)) { x with pending := m.pending } _ _ _ _ _ _ _ _ := M4.pend HM.out (.int .i32 m.pending)
                  have hfin := pw_set (pw_set (pw_set (pw_set (pw_set (pw_set hp 0 (.slice Ae x.ents.length ce)) 1 (.bool x.full)) 2 (.slice Ab x.blocks.length cb)) 3 (.slice Ap x.payload.length cp)) 4 (.slice Ar x.pres.length cr)) 5 (.int .i32 m.pending)
                  have hval := PW.val hfin
                  exact ⟨_, rfl, pmsg_eq HXF.out hval, hfin.bel⟩
end Go.Proofs.YtocdbecakefnnaaDoor
