/- laws.message. -/
import Derived.Deep.RegionHeld3
import Derived.Test.YtocdbecakefnnaaDoorApp
import Derived.Test.YtocdbecakefnnaaDoorRegL
import Derived.Test.YtocdbecakefnnaaDoorMsD
namespace Go.Proofs.YtocdbecakefnnaaDoor
open Go.RowKit

/-- The blocks of the message in the making. -/
def GM (w : World) : Nat → Prop := fun k => k = w.heap.size ∨ k = w.heap.size + 1
abbrev MW (w W : World) (x : Msg) (e b p r : Value) (xe xb xp xr : List Value) : Prop :=
  M4 w W (w.heap.size + 1) (w.heap.size + 2) 30 50 32 52 54 (GM w) (.bool x.full) (.int .i32 x.pending) e b p r x.ents.length x.blocks.length x.payload.length x.pres.length (x.ents.flatMap entF) (x.blocks.flatMap blkF) (x.payload.flatMap bloF) (x.pres.flatMap preF) xe xb xp xr
def msg0 (full : Bool) (pend : Int) : Msg := ⟨[], full, [], [], [], pend⟩
theorem mw_start (w : World) (full : Bool) (pend : Int) : MW w ((w.alloc (.cells #[.slice none 0 0, .bool false, .slice none 0 0, .slice none 0 0, .slice none 0 0, .int .i32 0] 30)).alloc (.cells #[.slice none 0 0, .bool full, .slice none 0 0, .slice none 0 0, .slice none 0 0, .int .i32 pend] 30)) (msg0 full pend) (.slice none 0 0) (.slice none 0 0) (.slice none 0 0) (.slice none 0 0) [] [] [] [] := by
  refine ⟨World.ownsRow_nil _ _ _ _, World.ownsRow_nil _ _ _ _, World.ownsRow_nil _ _ _ _, World.ownsRow_nil _ _ _ _, rfl, rfl, rfl, rfl, ?_, below_alloc (below_one w _) _, .inr rfl, fun k hk => ?_, Nat.le_add_right _ _, by simp⟩
  · have h := Blk.new (w.alloc (.cells #[.slice none 0 0, .bool false, .slice none 0 0, .slice none 0 0, .slice none 0 0, .int .i32 0] 30)) 30 #[.slice none 0 0, .bool full, .slice none 0 0, .slice none 0 0, .slice none 0 0, .int .i32 pend]
    rw [World.size_alloc] at h
    exact h
  · rcases hk with rfl | rfl <;> omega
theorem mw_e {w W : World} {x : Msg} {e b p r : Value} {xe xb xp xr : List Value} {en : Ent} (h : M4 w W (w.heap.size + 1) (w.heap.size + 2) 30 50 32 52 54 (GM w) (.bool x.full) (.int .i32 x.pending) e b p r (x.ents.length + 1) x.blocks.length x.payload.length x.pres.length (x.ents.flatMap entF ++ entF en) (x.blocks.flatMap blkF) (x.payload.flatMap bloF) (x.pres.flatMap preF) xe xb xp xr) :
    MW w W { x with ents := x.ents ++ [en] } e b p r xe xb xp xr := by
  show M4 _ _ _ _ _ _ _ _ _ _ _ _ _ _ _ _ (x.ents ++ [en]).length _ _ _ ((x.ents ++ [en]).flatMap entF) _ _ _ _ _ _ _
  rw [List.length_append, flat_snoc]
  exact h
theorem mw_b {w W : World} {x : Msg} {e b p r : Value} {xe xb xp xr : List Value} {en : List UInt8} (h : M4 w W (w.heap.size + 1) (w.heap.size + 2) 30 50 32 52 54 (GM w) (.bool x.full) (.int .i32 x.pending) e b p r x.ents.length (x.blocks.length + 1) x.payload.length x.pres.length (x.ents.flatMap entF) (x.blocks.flatMap blkF ++ blkF en) (x.payload.flatMap bloF) (x.pres.flatMap preF) xe xb xp xr) :
    MW w W { x with blocks := x.blocks ++ [en] } e b p r xe xb xp xr := by
  show M4 _ _ _ _ _ _ _ _ _ _ _ _ _ _ _ _ _ (x.blocks ++ [en]).length _ _ _ ((x.blocks ++ [en]).flatMap blkF) _ _ _ _ _ _
  rw [List.length_append, flat_snoc]
  exact h
theorem mw_p {w W : World} {x : Msg} {e b p r : Value} {xe xb xp xr : List Value} {en : Blo} (h : M4 w W (w.heap.size + 1) (w.heap.size + 2) 30 50 32 52 54 (GM w) (.bool x.full) (.int .i32 x.pending) e b p r x.ents.length x.blocks.length (x.payload.length + 1) x.pres.length (x.ents.flatMap entF) (x.blocks.flatMap blkF) (x.payload.flatMap bloF ++ bloF en) (x.pres.flatMap preF) xe xb xp xr) :
    MW w W { x with payload := x.payload ++ [en] } e b p r xe xb xp xr := by
  show M4 _ _ _ _ _ _ _ _ _ _ _ _ _ _ _ _ _ _ (x.payload ++ [en]).length _ _ _ ((x.payload ++ [en]).flatMap bloF) _ _ _ _ _
  rw [List.length_append, flat_snoc]
  exact h
theorem mw_r {w W : World} {x : Msg} {e b p r : Value} {xe xb xp xr : List Value} {en : Pre} (h : M4 w W (w.heap.size + 1) (w.heap.size + 2) 30 50 32 52 54 (GM w) (.bool x.full) (.int .i32 x.pending) e b p r x.ents.length x.blocks.length x.payload.length (x.pres.length + 1) (x.ents.flatMap entF) (x.blocks.flatMap blkF) (x.payload.flatMap bloF) (x.pres.flatMap preF ++ preF en) xe xb xp xr) :
    MW w W { x with pres := x.pres ++ [en] } e b p r xe xb xp xr := by
  show M4 _ _ _ _ _ _ _ _ _ _ _ _ _ _ _ _ _ _ _ (x.pres ++ [en]).length _ _ _ ((x.pres ++ [en]).flatMap preF) _ _ _ _
  rw [List.length_append, flat_snoc]
  exact h
theorem M4.set_ {w W : World} {K B : Nat} {T te tb tp tr : TypeId} {G0 : Nat → Prop} {full pend : Value} {e b p r : Value} {ne nb np nr : Nat} {fe fb fp fr : List FV} {xe xb xp xr : List Value} (h : M4 w W K B T te tb tp tr G0 full pend e b p r ne nb np nr fe fb fp fr xe xb xp xr) (k i : Nat) (u : Value) (hk : G0 k) (hne : K ≠ k) :
    M4 w (W.setCell ⟨k, i, none⟩ u) K B T te tb tp tr G0 full pend e b p r ne nb np nr fe fb fp fr xe xb xp xr := by
  have hlt := (h.gb k hk).2
  have hg := only_set W k i u
  have hr : ∀ k', some k = some k' → G4 G0 e b p r k' := fun k' e2 => by injection e2 with e2; subst e2; exact .inl hk
  exact ⟨ownsRow_setCell_below h.oe (by show k < _; omega) u, ownsRow_setCell_below h.ob (by show k < _; omega) u, ownsRow_setCell_below h.op (by show k < _; omega) u, ownsRow_setCell_below h.or (by show k < _; omega) u,
    h.fe.turn hg hr (fun _ h => .inl h), h.fb.turn hg hr (fun _ h => .inl h), h.fp.turn hg hr (fun _ h => .inl h), h.fr.turn hg hr (fun _ h => .inl h), h.blk.far hne u, h.bel.setCell (h.gb k hk).1 u, h.g0, h.gb, h.hb, Nat.le_trans h.hB hg.size⟩
theorem mw_set {w W : World} {x : Msg} {e b p r : Value} {xe xb xp xr : List Value} (h : MW w W x e b p r xe xb xp xr) (i : Nat) (u : Value) : MW w (W.setCell ⟨w.heap.size, i, none⟩ u) x e b p r xe xb xp xr := M4.set_ h w.heap.size i u (.inl rfl) (by omega)
theorem MW.val {w W : World} {x : Msg} {e b p r : Value} {xe xb xp xr : List Value} (h : MW w W x e b p r xe xb xp xr) : MsgV W x (.agg #[e, .bool x.full, b, p, r, .int .i32 x.pending]) :=
  ⟨e, b, p, r, rfl, .of_own h.oe h.fe, .of_own h.ob h.fb, .of_own h.op h.fp, .of_own h.or h.fr⟩
theorem fin6 {w : World} {g : Nat} {t : TypeId} {z0 z1 z2 z3 z4 z5 : Value} (h : Blk w g t #[z0, z1, z2, z3, z4, z5]) (a b c d e f : Value) : Blk ((((((w.setCell ⟨g, 0, none⟩ a).setCell ⟨g, 1, none⟩ b).setCell ⟨g, 2, none⟩ c).setCell ⟨g, 3, none⟩ d).setCell ⟨g, 4, none⟩ e).setCell ⟨g, 5, none⟩ f) g t #[a, b, c, d, e, f] := (((((h.set_ 0 a).set_ 1 b).set_ 2 c).set_ 3 d).set_ 4 e).set_ 5 f
theorem frow_ent {W : World} {G : Nat → Prop} {l : List UInt8} {v : Value} (a : Int) (b : Bool) (c : Int) (d : Bool) (h : FV.In W G (.bytes l) v) : FRow W G (entF ⟨l, a, b, c, d⟩) [v, .int .i32 a, .bool b, .int .i32 c, .bool d] :=
  ⟨_, _, rfl, h, _, _, rfl, ⟨rfl, rfl⟩, _, _, rfl, ⟨rfl, rfl⟩, _, _, rfl, ⟨rfl, rfl⟩, _, _, rfl, ⟨rfl, rfl⟩, rfl⟩
theorem frow_pre {W : World} {G : Nat → Prop} {l : List UInt8} {v : Value} (a : Int) (h : FV.In W G (.bytes l) v) : FRow W G (preF ⟨l, a⟩) [v, .int .i32 a] :=
  ⟨_, _, rfl, h, _, _, rfl, ⟨rfl, rfl⟩, rfl⟩
theorem frow_blk {W : World} {G : Nat → Prop} {l : List UInt8} {v : Value} (h : FV.In W G (.bytes l) v) : FRow W G (blkF l) [v] := ⟨_, _, rfl, h, rfl⟩
theorem frow_blo {W : World} {G : Nat → Prop} {l m : List UInt8} {v u : Value} (h : FV.In W G (.bytes l) v) (h2 : FV.In W G (.bytes m) u) : FRow W G (bloF ⟨l, m⟩) [v, u] := ⟨_, _, rfl, h, _, _, rfl, h2, rfl⟩
theorem in_below {W W' : World} {G : Nat → Prop} {f : FV} {v : Value} (h : FV.In W G f v) (hb : Below W.heap.size W W') : FV.In W' G f v := h.turn (only_of_below hb none) (fun k e => by cases e) (fun k h => .inl h)
theorem blk5 {W : World} {g : Nat} {t : TypeId} {a b c d e f x y : Value} (h : Blk W g t #[a, b, c, d, e, f, x, y]) : W.cell? ⟨g, 1, none⟩ = some b ∧ W.cell? ⟨g, 2, none⟩ = some c ∧ W.cell? ⟨g, 3, none⟩ = some d ∧ W.cell? ⟨g, 4, none⟩ = some e ∧ W.cell? ⟨g, 5, none⟩ = some f := ⟨h.cell 1, h.cell 2, h.cell 3, h.cell 4, h.cell 5⟩
set_option linter.unusedSimpArgs false in
set_option maxRecDepth 100000 in
set_option maxHeartbeats 4000000 in
theorem message_any (A : Option Addr) (n c : Nat) (ps : List Prt) (full : Bool) (pend : Int) (w : World) (h : RowF w 8 n (ps.flatMap partF) (.slice A n c)) (hn : ps.length = n) (hn40 : n ≤ 40) (hk : ∀ p ∈ ps, p.kind < 256 ∧ p.cid < 256) :
    Calls Tryd.prog 8 #[.slice A n c, .bool full, .int .i32 pend] w fun e w' => ∃ v, e = .returned v ∧ MsgV w' (msgOf ps full pend) v ∧ Below w.heap.size w w' := by
  obtain ⟨i1, hi1, ha0, ha1, ha2⟩ := info_parts infoEnt
  obtain ⟨i2, hi2, hb0, hb1, hb2⟩ := info_parts infoByt
  obtain ⟨i3, hi3, hc0, hc1, hc2⟩ := info_parts infoBlo
  obtain ⟨i4, hi4, hd0, hd1, hd2⟩ := info_parts infoPre
  have HR := Lib.hid h
  have HN := Lib.hid hn
  have HK := Lib.hid hk
  clear h hn hk
  go_enter Tryd.func8, Tryd.ntmps8
  go_wp2
  go_loopw [15] (fun si wr => ∃ (j : Nat) (x : Msg) (e b p r : Value) (xe xb xp xr : List Value), j ≤ n ∧ si = .int .i64 j ∧ Hid (x = (ps.take j).foldl addP (msg0 full pend)) ∧ Hid (x.ents.length + x.blocks.length + x.payload.length + x.pres.length = j) ∧ Hid (x.full = full ∧ x.pending = pend) ∧ Hid (MW w wr x e b p r xe xb xp xr) ∧ Hid (Blk wr w.heap.size 30 #[.slice none 0 0, .bool false, .slice none 0 0, .slice none 0 0, .slice none 0 0, .int .i32 0])) (fun si _ => n - (intOf si).toNat)
  case atStart => exact ⟨0, msg0 full pend, _, _, _, _, _, _, _, _, Nat.zero_le _, rfl, rfl, rfl, ⟨rfl, rfl⟩, mw_start w full pend, (Blk.new w _ _).alloc _⟩
  case round =>
    obtain ⟨j, x, e, b, p, r, xe, xb, xp, xr, hj, rfl, HX, HC, HF, HM, HZ⟩ := hrel
    obtain ⟨Ae, ce, rfl, -, -⟩ := own_shape HM.out.oe
    obtain ⟨Ab, cb, rfl, -, -⟩ := own_shape HM.out.ob
    obtain ⟨Ap, cp, rfl, -, -⟩ := own_shape HM.out.op
    obtain ⟨Ar, cr, rfl, -, -⟩ := own_shape HM.out.or
    by_cases hlt : j < n
    · obtain ⟨q, hq, htk⟩ : ∃ q, ps[j]? = some q ∧ ps.take (j + 1) = ps.take j ++ [q] := ⟨_, List.getElem?_eq_getElem (by have := HN.out; omega), List.take_succ_eq_append_getElem (by have := HN.out; omega)⟩
      obtain ⟨bp, op, A1, c1, A2, c2, rfl, hbl, ⟨k0, k1, k2, k3, k4, k5, k6, k7⟩, f6, f7⟩ := part_cells HR.out HN.out HM.out.bel hq
      have hkk := HK.out q (List.mem_of_getElem? hq)
      have HST : Hid ((ps.take (j + 1)).foldl addP (msg0 full pend) = addP x q) := Lib.hid (by rw [htk, List.foldl_append, ← HX.out]; rfl)
      have HCN := Lib.hid (addP_count x q)
      have HFN := Lib.hid (addP_full x q)
      have g1 : (j : Int) < (n : Int) := by omega
      have hsz := HM.out.bel.size
      have hblr : bp < wr.heap.size := by omega
      have F6 := Lib.hid f6
      have F7 := Lib.hid f7
      obtain ⟨qk, hqk⟩ : ∃ t, q.kind % 4 = t := ⟨_, rfl⟩
      have e1 : ((q.kind : Nat) : Int).tmod 4 = (qk : Int) := by rw [Int.tmod_eq_emod_of_nonneg (by omega)]; omega
      have HI := Lib.hid (fun W => ident_any q.cid W hkk.2)
      have hcu : (q.cid : Int) < 256 := by omega
      have hku : (q.kind : Int) < 256 := by omega
      have HM0 := Lib.hid (HM.out.grow (below_one wr (.cells #[.int .u8 (q.kind : Nat), .int .u8 (q.cid : Nat), .int .i32 q.prio, .int .i32 q.type, .bool q.cancel, .bool q.dont, .slice A1 q.pre.length c1, .slice A2 q.data.length c2] 44)))
      have HP := Lib.hid (Blk.new wr 44 #[.int .u8 (q.kind : Nat), .int .u8 (q.cid : Nat), .int .i32 q.prio, .int .i32 q.type, .bool q.cancel, .bool q.dont, .slice A1 q.pre.length c1, .slice A2 q.data.length c2])
      have HZ0 := Lib.hid (HZ.out.alloc (.cells #[.int .u8 (q.kind : Nat), .int .u8 (q.cid : Nat), .int .i32 q.prio, .int .i32 q.type, .bool q.cancel, .bool q.dont, .slice A1 q.pre.length c1, .slice A2 q.data.length c2] 44))
      have HIG := Lib.hid HM.out.high
      clear hq htk f6 f7 HX
      have hq4 : qk = 0 ∨ qk = 1 ∨ qk = 2 ∨ qk = 3 := by omega
      rcases hq4 with rfl | rfl | rfl | rfl
      · have HE : Hid (addP x q = { x with ents := x.ents ++ [⟨identB q.cid, q.prio, q.cancel, q.type, q.dont⟩] }) := Lib.hid (by unfold addP; rw [if_pos hqk])
        have z0 := HM0.out.blk.cell 0
        have zf := HM0.out.blk.frozen 0
        have zl := HM0.out.blk.lt
        have NE : Hid (some (w.heap.size + 1) ≠ (Value.slice Ae x.ents.length ce).ownBlock) := Lib.hid (fun e2 => by have := own_base HM.out.oe _ e2.symm; omega)
        have NEZ : Hid (some w.heap.size ≠ (Value.slice Ae x.ents.length ce).ownBlock) := Lib.hid (fun e2 => by have := own_base HM.out.oe _ e2.symm; omega)
        have NEP : Hid (some wr.heap.size ≠ (Value.slice Ae x.ents.length ce).ownBlock) := Lib.hid (fun e2 => by have := (HM.out.oe.lt _ e2.symm).2; omega)
        have NEK : wr.heap.size ≠ w.heap.size + 1 := by have := HM.out.blk.lt; omega
        go_wp2_with fail
        refine wp_region_L 17 (fun w' => w'.cell? ⟨w.heap.size + 1, 0, none⟩ = some (.slice Ae x.ents.length ce) ∧ w'.cell? ⟨wr.heap.size, 1, none⟩ = some (.int .u8 (q.cid : Nat)) ∧ w'.cell? ⟨wr.heap.size, 2, none⟩ = some (.int .i32 q.prio) ∧ w'.cell? ⟨wr.heap.size, 3, none⟩ = some (.int .i32 q.type) ∧ w'.cell? ⟨wr.heap.size, 4, none⟩ = some (.bool q.cancel) ∧ w'.cell? ⟨wr.heap.size, 5, none⟩ = some (.bool q.dont)) (by kernel_rfl) ⟨z0, blk5 HP.out⟩ (fun hHeld => ?_)
        refine wpAnyL_take (i := 0) (v := ?_) rfl (by kernel_rfl) (by kernel_rfl) (by kernel_rfl) (by kernel_rfl) (fun _ _ _ h => h) (Or.inl ⟨by rfl, ?_⟩) hHeld ?_
        rotate_left 1
        · (intro w0 hSw; (try dsimp only at hSw); go_simp; try (with_reducible rfl))
        simp only [Act.put, List.setIfInBounds_toArray, List.set_cons_zero, List.set_cons_succ]
        refine wpAnyL_take (i := 1) (v := ?_) rfl (by kernel_rfl) (by kernel_rfl) (by kernel_rfl) (by kernel_rfl) (fun _ _ _ h => h) (Or.inl ⟨by rfl, ?_⟩) hHeld ?_
        rotate_left 1
        · (intro w0 hSw; (try dsimp only at hSw); go_simp; try (with_reducible rfl))
        simp only [Act.put, List.setIfInBounds_toArray, List.set_cons_zero, List.set_cons_succ]
        refine wpAnyL_take (i := 2) (v := ?_) rfl (by kernel_rfl) (by kernel_rfl) (by kernel_rfl) (by kernel_rfl) (fun _ _ _ h => h) (Or.inl ⟨by rfl, ?_⟩) hHeld ?_
        rotate_left 1
        · (intro w0 hSw; (try dsimp only at hSw); go_simp; try (with_reducible rfl))
        simp only [Act.put, List.setIfInBounds_toArray, List.set_cons_zero, List.set_cons_succ]
        refine wpAnyL_take (i := 3) (v := ?_) rfl (by kernel_rfl) (by kernel_rfl) (by kernel_rfl) (by kernel_rfl) (fun _ _ _ h => h) (Or.inl ⟨by rfl, ?_⟩) hHeld ?_
        rotate_left 1
        · (intro w0 hSw; (try dsimp only at hSw); go_simp; try (with_reducible rfl))
        simp only [Act.put, List.setIfInBounds_toArray, List.set_cons_zero, List.set_cons_succ]
        refine wpAnyL_take (i := 5) (v := ?_) rfl (by kernel_rfl) (by kernel_rfl) (by kernel_rfl) (by kernel_rfl) (fun _ _ _ h => h) (Or.inl ⟨by rfl, ?_⟩) hHeld ?_
        rotate_left 1
        · (intro w0 hSw; (try dsimp only at hSw); go_simp; try (with_reducible rfl))
        simp only [Act.put, List.setIfInBounds_toArray, List.set_cons_zero, List.set_cons_succ]
        refine wpAnyL_take (i := 6) (v := ?_) rfl (by kernel_rfl) (by kernel_rfl) (by kernel_rfl) (by kernel_rfl) (fun _ _ _ h => h) (Or.inl ⟨by rfl, ?_⟩) hHeld ?_
        rotate_left 1
        · (intro w0 hSw; (try dsimp only at hSw); go_simp; try (with_reducible rfl))
        simp only [Act.put, List.setIfInBounds_toArray, List.set_cons_zero, List.set_cons_succ]
        refine wpAnyL_take (i := 7) (v := ?_) rfl (by kernel_rfl) (by kernel_rfl) (by kernel_rfl) (by kernel_rfl) (fun _ _ _ h => h) (Or.inl ⟨by rfl, ?_⟩) hHeld ?_
        rotate_left 1
        · (intro w0 hSw; (try dsimp only at hSw); go_simp; try (with_reducible rfl))
        simp only [Act.put, List.setIfInBounds_toArray, List.set_cons_zero, List.set_cons_succ]
        refine wpAnyL_take (i := 8) (v := ?_) rfl (by kernel_rfl) (by kernel_rfl) (by kernel_rfl) (by kernel_rfl) (fun _ _ _ h => h) (Or.inl ⟨by rfl, ?_⟩) hHeld ?_
        rotate_left 1
        · (intro w0 hSw; (try dsimp only at hSw); go_simp; try (with_reducible rfl))
        simp only [Act.put, List.setIfInBounds_toArray, List.set_cons_zero, List.set_cons_succ]
        refine wpAnyL_take (i := 9) (v := ?_) rfl (by kernel_rfl) (by kernel_rfl) (by kernel_rfl) (by kernel_rfl) (fun _ _ _ h => h) (Or.inl ⟨by rfl, ?_⟩) hHeld ?_
        rotate_left 1
        · (intro w0 hSw; (try dsimp only at hSw); go_simp; try (with_reducible rfl))
        simp only [Act.put, List.setIfInBounds_toArray, List.set_cons_zero, List.set_cons_succ]
        refine wpAnyL_take (i := 10) (v := ?_) rfl (by kernel_rfl) (by kernel_rfl) (by kernel_rfl) (by kernel_rfl) (fun _ _ _ h => h) (Or.inl ⟨by rfl, ?_⟩) hHeld ?_
        rotate_left 1
        · (intro w0 hSw; (try dsimp only at hSw); go_simp; try (with_reducible rfl))
        simp only [Act.put, List.setIfInBounds_toArray, List.set_cons_zero, List.set_cons_succ]
        refine wpAnyL_take (i := 11) (v := ?_) rfl (by kernel_rfl) (by kernel_rfl) (by kernel_rfl) (by kernel_rfl) (fun _ _ _ h => h) (Or.inl ⟨by rfl, ?_⟩) hHeld ?_
        rotate_left 1
        · (intro w0 hSw; (try dsimp only at hSw); go_simp; try (with_reducible rfl))
        simp only [Act.put, List.setIfInBounds_toArray, List.set_cons_zero, List.set_cons_succ]
        refine wpAnyL_take (i := 12) (v := ?_) rfl (by kernel_rfl) (by kernel_rfl) (by kernel_rfl) (by kernel_rfl) (fun _ _ _ h => h) (Or.inl ⟨by rfl, ?_⟩) hHeld ?_
        rotate_left 1
        · (intro w0 hSw; (try dsimp only at hSw); go_simp; try (with_reducible rfl))
        simp only [Act.put, List.setIfInBounds_toArray, List.set_cons_zero, List.set_cons_succ]
        refine wpAnyL_one (i := 4) (by kernel_rfl) rfl (by rfl) (fun K hK => ?_)
        go_simp
        go_at_call 19
        (with_reducible refine (HI.out _).mono ?_)
        rintro e1 w1 ⟨⟨v, rfl, ho⟩, hb⟩
        obtain ⟨Ai, ci, rfl, -, -⟩ := own_shape ho
        have HIN := Lib.hid (in_own ho (fun k hk => (HM0.out.high k hk).2))
        have hb := undrew hb
        have HM1 := Lib.hid (HM0.out.grow hb)
        have HP1 := Lib.hid (bkeep hb HP.out)
        have HZ1 := Lib.hid (bkeep hb HZ0.out)
        clear ho hb z0 zf zl hHeld
        refine hK.out _ _ (fun _ => ⟨HM1.out.blk.cell 0, blk5 HP1.out⟩) (fun hHeld0 => ?_)
        clear hK K
        have hHeld := hHeld0 (by decide)
        clear hHeld0
        (try simp only [Act.put, List.setIfInBounds_toArray, List.set_cons_zero, List.set_cons_succ])
        refine wpAnyL_take (i := 13) (v := ?_) rfl (by kernel_rfl) (by kernel_rfl) (by kernel_rfl) (by kernel_rfl) (fun _ _ _ h => h) (Or.inl ⟨by rfl, ?_⟩) hHeld ?_
        rotate_left 1
        · (intro w0 hSw; (try dsimp only at hSw); go_simp; try (with_reducible rfl))
        simp only [Act.put, List.setIfInBounds_toArray, List.set_cons_zero, List.set_cons_succ]
        refine wpAnyL_one (i := 14) (by kernel_rfl) rfl (by rfl) (fun K hK => ?_)
        go_simp
        refine hK.out _ _ (fun _ => ⟨(HM1.out.blk.alloc _).cell 0, blk5 (HP1.out.alloc _)⟩) (fun hHeld0 => ?_)
        clear hK K
        have hHeld := hHeld0 (by decide)
        clear hHeld0
        (try simp only [Act.put, List.setIfInBounds_toArray, List.set_cons_zero, List.set_cons_succ])
        refine wpAnyL_one (i := 15) (by kernel_rfl) rfl (by rfl) (fun K hK => ?_)
        refine oper_append_row _ (.tmp 25) (.tmp 38) 25 (by rfl) (w.heap.size + 2) 50 i1 _ 5 40 Tryd.underlying25 hi1 ha0 ha1 ha2 rfl (by decide) (.slice Ae x.ents.length ce) x.ents.length xe (by rfl) (HM1.out.oe.alloc _) _ _ 1 1 [.slice Ai (identB q.cid).length ci, .int .i32 q.prio, .bool q.cancel, .int .i32 q.type, .bool q.dont] (by rfl) (lit_new _ _ _ 5 rfl (by omega)) (by intro u hu; simp at hu; rcases hu with rfl | rfl | rfl | rfl | rfl <;> rfl) (by have := HC.out; unfold maxLen; omega) (by have := HC.out; omega) (by have := HM1.out.hB; simp; omega) ?_
        intro v3 w8 hown3 hg3 hat3
        have HM3 := Lib.hid (HM1.out.appE (below_one _ _) (frow_ent _ _ _ _ (in_below HIN.out (below_one _ _))) hown3 hg3 hat3 (by decide) (by decide) (by decide))
        have hbk := (HM1.out.blk.alloc _).grown hg3 NE.out
        have HP8 := Lib.hid ((HP1.out.alloc _).grown hg3 NEP.out)
        have HZ8 := Lib.hid (blk_set_far ((HZ1.out.alloc _).grown hg3 NEZ.out) (w.heap.size + 1) 0 (by omega) v3)
        have z0 : w8.cell? ⟨w.heap.size + 1, 0, none⟩ = some (.slice Ae x.ents.length ce) := hbk.cell 0
        have zf : w8.frozen? ⟨w.heap.size + 1, 0, none⟩ = false := hbk.frozen 0
        have zl : w.heap.size + 1 < w8.heap.size := hbk.lt
        obtain ⟨A8, c8, rfl, -, -⟩ := own_shape hown3
        clear hown3 hg3 hat3 hbk hHeld
        refine hK.out _ _ (fun _ => ⟨z0, blk5 HP8.out⟩) (fun hHeld0 => ?_)
        clear hK K
        have hHeld := hHeld0 (by decide)
        clear hHeld0
        (try simp only [Act.put, List.setIfInBounds_toArray, List.set_cons_zero, List.set_cons_succ])
        refine wpAnyL_take (i := 16) (v := ?_) rfl (by kernel_rfl) (by kernel_rfl) (by kernel_rfl) (by kernel_rfl) (fun _ _ _ h => h) (Or.inl ⟨by rfl, ?_⟩) hHeld ?_
        rotate_left 1
        · (intro w0 hSw; (try dsimp only at hSw); go_simp; try (with_reducible rfl))
        simp only [Act.put, List.setIfInBounds_toArray, List.set_cons_zero, List.set_cons_succ]
        refine wpAnyL_one (i := 17) (by kernel_rfl) rfl (by rfl) (fun K hK => ?_)
        go_simp
        refine hK.out _ _ (fun h => absurd rfl h) (fun _ => ?_)
        clear hK K
        refine wpAnyL_done (by kernel_rfl) ?_
        go_wp2
        go_roundw
        case rel => exact ⟨j + 1, _, _, _, _, _, _, _, _, _, by omega, by go_num, by show _ = _; rw [HST.out, HE.out], by show _ = _; have := HCN.out; rw [HE.out] at this; have := HC.out; omega, by rw [← HE.out]; exact ⟨HFN.out.1.trans HF.out.1, HFN.out.2.trans HF.out.2⟩, mw_e HM3.out, HZ8.out⟩
        case measure => simp [intOf]; omega
      · have HE : Hid (addP x q = { x with blocks := x.blocks ++ [q.data] }) := Lib.hid (by unfold addP; rw [if_neg (by omega), if_pos hqk])
        have z0 := HM0.out.blk.cell 2
        have zf := HM0.out.blk.frozen 2
        have zl := HM0.out.blk.lt
        have NE : Hid (some (w.heap.size + 1) ≠ (Value.slice Ab x.blocks.length cb).ownBlock) := Lib.hid (fun e2 => by have := own_base HM.out.ob _ e2.symm; omega)
        have NEZ : Hid (some w.heap.size ≠ (Value.slice Ab x.blocks.length cb).ownBlock) := Lib.hid (fun e2 => by have := own_base HM.out.ob _ e2.symm; omega)
        have NEP : Hid (some wr.heap.size ≠ (Value.slice Ab x.blocks.length cb).ownBlock) := Lib.hid (fun e2 => by have := (HM.out.ob.lt _ e2.symm).2; omega)
        go_wp2_with (first
          | (at_builtin; refine wpList_append_any _ rfl (.tmp 44) (.tmp 47) 26 rfl (w.heap.size + 2) 32 i2 _ 1 24 Tryd.underlying26 hi2 hb0 hb1 hb2 rfl (by decide) (.slice Ab x.blocks.length cb) x.blocks.length xb rfl (HM0.out.ob.alloc _) _ _ 1 1 [.slice A2 q.data.length c2] rfl (lit_new2 wr _ _ _ 1 rfl (by omega)) (by intro u hu; simp at hu; subst hu; rfl) (by have := HC.out; unfold maxLen; omega) (by have := HC.out; omega) (by have := HM0.out.hB; simp; omega) ?_; rintro v3 w8 hown3 hg3 hat3 -; have HM3 := Lib.hid (HM0.out.appB (below_one _ _) (frow_blk (in_old F7.out (HM0.out.bel.trans ((below_one _ _).mono HM0.out.bel.size)) (fun k hk => (HM0.out.high k hk).1))) hown3 hg3 hat3 (by decide) (by decide) (by decide)); have hbk := (HM0.out.blk.alloc _).grown hg3 NE.out; have HZ8 := Lib.hid (blk_set_far ((HZ0.out.alloc _).grown hg3 NEZ.out) (w.heap.size + 1) 2 (by omega) v3); have y0 : w8.cell? ⟨w.heap.size + 1, 2, none⟩ = some (.slice Ab x.blocks.length cb) := hbk.cell 2; have yf : w8.frozen? ⟨w.heap.size + 1, 2, none⟩ = false := hbk.frozen 2; have yl : w.heap.size + 1 < w8.heap.size := hbk.lt; obtain ⟨A8, c8, rfl, -, -⟩ := own_shape hown3; clear hown3 hg3 hat3 hbk)
          | fail)
        go_roundw
        case rel => exact ⟨j + 1, _, _, _, _, _, _, _, _, _, by omega, by go_num, by show _ = _; rw [HST.out, HE.out], by show _ = _; have := HCN.out; rw [HE.out] at this; have := HC.out; omega, by rw [← HE.out]; exact ⟨HFN.out.1.trans HF.out.1, HFN.out.2.trans HF.out.2⟩, mw_b HM3.out, HZ8.out⟩
        case measure => simp [intOf]; omega
      · have HE : Hid (addP x q = { x with payload := x.payload ++ [⟨q.pre, q.data⟩] }) := Lib.hid (by unfold addP; rw [if_neg (by omega), if_neg (by omega), if_pos hqk])
        have z0 := HM0.out.blk.cell 3
        have zf := HM0.out.blk.frozen 3
        have zl := HM0.out.blk.lt
        have NE : Hid (some (w.heap.size + 1) ≠ (Value.slice Ap x.payload.length cp).ownBlock) := Lib.hid (fun e2 => by have := own_base HM.out.op _ e2.symm; omega)
        have NEZ : Hid (some w.heap.size ≠ (Value.slice Ap x.payload.length cp).ownBlock) := Lib.hid (fun e2 => by have := own_base HM.out.op _ e2.symm; omega)
        have NEP : Hid (some wr.heap.size ≠ (Value.slice Ap x.payload.length cp).ownBlock) := Lib.hid (fun e2 => by have := (HM.out.op.lt _ e2.symm).2; omega)
        go_wp2_with (first
          | (at_builtin; refine wpList_append_any _ rfl (.tmp 53) (.tmp 59) 27 rfl (w.heap.size + 2) 52 i3 _ 2 48 Tryd.underlying27 hi3 hc0 hc1 hc2 rfl (by decide) (.slice Ap x.payload.length cp) x.payload.length xp rfl (HM0.out.op.alloc _) _ _ 1 1 [.slice A1 q.pre.length c1, .slice A2 q.data.length c2] rfl (lit_new2 wr _ _ _ 2 rfl (by omega)) (by intro u hu; simp at hu; rcases hu with rfl | rfl <;> rfl) (by have := HC.out; unfold maxLen; omega) (by have := HC.out; omega) (by have := HM0.out.hB; simp; omega) ?_; rintro v3 w8 hown3 hg3 hat3 -; have HM3 := Lib.hid (HM0.out.appP (below_one _ _) (frow_blo (in_old F6.out (HM0.out.bel.trans ((below_one _ _).mono HM0.out.bel.size)) (fun k hk => (HM0.out.high k hk).1)) (in_old F7.out (HM0.out.bel.trans ((below_one _ _).mono HM0.out.bel.size)) (fun k hk => (HM0.out.high k hk).1))) hown3 hg3 hat3 (by decide) (by decide) (by decide)); have hbk := (HM0.out.blk.alloc _).grown hg3 NE.out; have HZ8 := Lib.hid (blk_set_far ((HZ0.out.alloc _).grown hg3 NEZ.out) (w.heap.size + 1) 3 (by omega) v3); have y0 : w8.cell? ⟨w.heap.size + 1, 3, none⟩ = some (.slice Ap x.payload.length cp) := hbk.cell 3; have yf : w8.frozen? ⟨w.heap.size + 1, 3, none⟩ = false := hbk.frozen 3; have yl : w.heap.size + 1 < w8.heap.size := hbk.lt; obtain ⟨A8, c8, rfl, -, -⟩ := own_shape hown3; clear hown3 hg3 hat3 hbk)
          | fail)
        go_roundw
        case rel => exact ⟨j + 1, _, _, _, _, _, _, _, _, _, by omega, by go_num, by show _ = _; rw [HST.out, HE.out], by show _ = _; have := HCN.out; rw [HE.out] at this; have := HC.out; omega, by rw [← HE.out]; exact ⟨HFN.out.1.trans HF.out.1, HFN.out.2.trans HF.out.2⟩, mw_p HM3.out, HZ8.out⟩
        case measure => simp [intOf]; omega
      · have HE : Hid (addP x q = { x with pres := x.pres ++ [⟨identB q.cid, q.type⟩] }) := Lib.hid (by unfold addP; rw [if_neg (by omega), if_neg (by omega), if_neg (by omega)])
        have z0 := HM0.out.blk.cell 4
        have zf := HM0.out.blk.frozen 4
        have zl := HM0.out.blk.lt
        have NE : Hid (some (w.heap.size + 1) ≠ (Value.slice Ar x.pres.length cr).ownBlock) := Lib.hid (fun e2 => by have := own_base HM.out.or _ e2.symm; omega)
        have NEZ : Hid (some w.heap.size ≠ (Value.slice Ar x.pres.length cr).ownBlock) := Lib.hid (fun e2 => by have := own_base HM.out.or _ e2.symm; omega)
        have NEP : Hid (some wr.heap.size ≠ (Value.slice Ar x.pres.length cr).ownBlock) := Lib.hid (fun e2 => by have := (HM.out.or.lt _ e2.symm).2; omega)
        go_wp2_with fail
        refine wp_region_L 11 (fun w' => w'.cell? ⟨w.heap.size + 1, 4, none⟩ = some (.slice Ar x.pres.length cr) ∧ w'.cell? ⟨wr.heap.size, 1, none⟩ = some (.int .u8 (q.cid : Nat)) ∧ w'.cell? ⟨wr.heap.size, 2, none⟩ = some (.int .i32 q.prio) ∧ w'.cell? ⟨wr.heap.size, 3, none⟩ = some (.int .i32 q.type) ∧ w'.cell? ⟨wr.heap.size, 4, none⟩ = some (.bool q.cancel) ∧ w'.cell? ⟨wr.heap.size, 5, none⟩ = some (.bool q.dont)) (by kernel_rfl) ⟨z0, blk5 HP.out⟩ (fun hHeld => ?_)
        refine wpAnyL_take (i := 0) (v := ?_) rfl (by kernel_rfl) (by kernel_rfl) (by kernel_rfl) (by kernel_rfl) (fun _ _ _ h => h) (Or.inl ⟨by rfl, ?_⟩) hHeld ?_
        rotate_left 1
        · (intro w0 hSw; (try dsimp only at hSw); go_simp; try (with_reducible rfl))
        simp only [Act.put, List.setIfInBounds_toArray, List.set_cons_zero, List.set_cons_succ]
        refine wpAnyL_take (i := 1) (v := ?_) rfl (by kernel_rfl) (by kernel_rfl) (by kernel_rfl) (by kernel_rfl) (fun _ _ _ h => h) (Or.inl ⟨by rfl, ?_⟩) hHeld ?_
        rotate_left 1
        · (intro w0 hSw; (try dsimp only at hSw); go_simp; try (with_reducible rfl))
        simp only [Act.put, List.setIfInBounds_toArray, List.set_cons_zero, List.set_cons_succ]
        refine wpAnyL_take (i := 2) (v := ?_) rfl (by kernel_rfl) (by kernel_rfl) (by kernel_rfl) (by kernel_rfl) (fun _ _ _ h => h) (Or.inl ⟨by rfl, ?_⟩) hHeld ?_
        rotate_left 1
        · (intro w0 hSw; (try dsimp only at hSw); go_simp; try (with_reducible rfl))
        simp only [Act.put, List.setIfInBounds_toArray, List.set_cons_zero, List.set_cons_succ]
        refine wpAnyL_take (i := 3) (v := ?_) rfl (by kernel_rfl) (by kernel_rfl) (by kernel_rfl) (by kernel_rfl) (fun _ _ _ h => h) (Or.inl ⟨by rfl, ?_⟩) hHeld ?_
        rotate_left 1
        · (intro w0 hSw; (try dsimp only at hSw); go_simp; try (with_reducible rfl))
        simp only [Act.put, List.setIfInBounds_toArray, List.set_cons_zero, List.set_cons_succ]
        refine wpAnyL_take (i := 5) (v := ?_) rfl (by kernel_rfl) (by kernel_rfl) (by kernel_rfl) (by kernel_rfl) (fun _ _ _ h => h) (Or.inl ⟨by rfl, ?_⟩) hHeld ?_
        rotate_left 1
        · (intro w0 hSw; (try dsimp only at hSw); go_simp; try (with_reducible rfl))
        simp only [Act.put, List.setIfInBounds_toArray, List.set_cons_zero, List.set_cons_succ]
        refine wpAnyL_take (i := 6) (v := ?_) rfl (by kernel_rfl) (by kernel_rfl) (by kernel_rfl) (by kernel_rfl) (fun _ _ _ h => h) (Or.inl ⟨by rfl, ?_⟩) hHeld ?_
        rotate_left 1
        · (intro w0 hSw; (try dsimp only at hSw); go_simp; try (with_reducible rfl))
        simp only [Act.put, List.setIfInBounds_toArray, List.set_cons_zero, List.set_cons_succ]
        refine wpAnyL_one (i := 4) (by kernel_rfl) rfl (by rfl) (fun K hK => ?_)
        go_simp
        go_at_call 19
        (with_reducible refine (HI.out _).mono ?_)
        rintro e1 w1 ⟨⟨v, rfl, ho⟩, hb⟩
        obtain ⟨Ai, ci, rfl, -, -⟩ := own_shape ho
        have HIN := Lib.hid (in_own ho (fun k hk => (HM0.out.high k hk).2))
        have hb := undrew hb
        have HM1 := Lib.hid (HM0.out.grow hb)
        have HP1 := Lib.hid (bkeep hb HP.out)
        have HZ1 := Lib.hid (bkeep hb HZ0.out)
        clear ho hb z0 zf zl hHeld
        refine hK.out _ _ (fun _ => ⟨HM1.out.blk.cell 4, blk5 HP1.out⟩) (fun hHeld0 => ?_)
        clear hK K
        have hHeld := hHeld0 (by decide)
        clear hHeld0
        (try simp only [Act.put, List.setIfInBounds_toArray, List.set_cons_zero, List.set_cons_succ])
        refine wpAnyL_take (i := 7) (v := ?_) rfl (by kernel_rfl) (by kernel_rfl) (by kernel_rfl) (by kernel_rfl) (fun _ _ _ h => h) (Or.inl ⟨by rfl, ?_⟩) hHeld ?_
        rotate_left 1
        · (intro w0 hSw; (try dsimp only at hSw); go_simp; try (with_reducible rfl))
        simp only [Act.put, List.setIfInBounds_toArray, List.set_cons_zero, List.set_cons_succ]
        refine wpAnyL_one (i := 8) (by kernel_rfl) rfl (by rfl) (fun K hK => ?_)
        go_simp
        refine hK.out _ _ (fun _ => ⟨(HM1.out.blk.alloc _).cell 4, blk5 (HP1.out.alloc _)⟩) (fun hHeld0 => ?_)
        clear hK K
        have hHeld := hHeld0 (by decide)
        clear hHeld0
        (try simp only [Act.put, List.setIfInBounds_toArray, List.set_cons_zero, List.set_cons_succ])
        refine wpAnyL_one (i := 9) (by kernel_rfl) rfl (by rfl) (fun K hK => ?_)
        refine oper_append_row _ (.tmp 65) (.tmp 72) 28 (by rfl) (w.heap.size + 2) 54 i4 _ 2 32 Tryd.underlying28 hi4 hd0 hd1 hd2 rfl (by decide) (.slice Ar x.pres.length cr) x.pres.length xr (by rfl) (HM1.out.or.alloc _) _ _ 1 1 [.slice Ai (identB q.cid).length ci, .int .i32 q.type] (by rfl) (lit_new _ _ _ 2 rfl (by omega)) (by intro u hu; simp at hu; rcases hu with rfl | rfl <;> rfl) (by have := HC.out; unfold maxLen; omega) (by have := HC.out; omega) (by have := HM1.out.hB; simp; omega) ?_
        intro v3 w8 hown3 hg3 hat3
        have HM3 := Lib.hid (HM1.out.appR (below_one _ _) (frow_pre _ (in_below HIN.out (below_one _ _))) hown3 hg3 hat3 (by decide) (by decide) (by decide))
        have hbk := (HM1.out.blk.alloc _).grown hg3 NE.out
        have HP8 := Lib.hid ((HP1.out.alloc _).grown hg3 NEP.out)
        have HZ8 := Lib.hid (blk_set_far ((HZ1.out.alloc _).grown hg3 NEZ.out) (w.heap.size + 1) 4 (by omega) v3)
        have z0 : w8.cell? ⟨w.heap.size + 1, 4, none⟩ = some (.slice Ar x.pres.length cr) := hbk.cell 4
        have zf : w8.frozen? ⟨w.heap.size + 1, 4, none⟩ = false := hbk.frozen 4
        have zl : w.heap.size + 1 < w8.heap.size := hbk.lt
        obtain ⟨A8, c8, rfl, -, -⟩ := own_shape hown3
        clear hown3 hg3 hat3 hbk hHeld
        refine hK.out _ _ (fun _ => ⟨z0, blk5 HP8.out⟩) (fun hHeld0 => ?_)
        clear hK K
        have hHeld := hHeld0 (by decide)
        clear hHeld0
        (try simp only [Act.put, List.setIfInBounds_toArray, List.set_cons_zero, List.set_cons_succ])
        refine wpAnyL_take (i := 10) (v := ?_) rfl (by kernel_rfl) (by kernel_rfl) (by kernel_rfl) (by kernel_rfl) (fun _ _ _ h => h) (Or.inl ⟨by rfl, ?_⟩) hHeld ?_
        rotate_left 1
        · (intro w0 hSw; (try dsimp only at hSw); go_simp; try (with_reducible rfl))
        simp only [Act.put, List.setIfInBounds_toArray, List.set_cons_zero, List.set_cons_succ]
        refine wpAnyL_one (i := 11) (by kernel_rfl) rfl (by rfl) (fun K hK => ?_)
        go_simp
        refine hK.out _ _ (fun h => absurd rfl h) (fun _ => ?_)
        clear hK K
        refine wpAnyL_done (by kernel_rfl) ?_
        go_wp2
        go_roundw
        case rel => exact ⟨j + 1, _, _, _, _, _, _, _, _, _, by omega, by go_num, by show _ = _; rw [HST.out, HE.out], by show _ = _; have := HCN.out; rw [HE.out] at this; have := HC.out; omega, by rw [← HE.out]; exact ⟨HFN.out.1.trans HF.out.1, HFN.out.2.trans HF.out.2⟩, mw_r HM3.out, HZ8.out⟩
        case measure => simp [intOf]; omega
    · have g1 : ¬ (j : Int) < (n : Int) := by omega
      have HFX : Hid (msgOf ps full pend = x) := by
        show _ = _
        have h := HX.out
        rw [List.take_of_length_le (by have := HN.out; omega)] at h
        exact h.symm
      have q0 := HM.out.blk.cell 0
      have q1 := HM.out.blk.cell 1
      have q2 := HM.out.blk.cell 2
      have q3 := HM.out.blk.cell 3
      have q4 := HM.out.blk.cell 4
      have q5 := HM.out.blk.cell 5
      have ql := HM.out.blk.lt
      have y0 := HZ.out.cell 0
      have y1 := HZ.out.cell 1
      have y2 := HZ.out.cell 2
      have y3 := HZ.out.cell 3
      have y4 := HZ.out.cell 4
      have y5 := HZ.out.cell 5
      have f0 := HZ.out.frozen 0
      have f1 := HZ.out.frozen 1
      have f2 := HZ.out.frozen 2
      have f3 := HZ.out.frozen 3
      have f4 := HZ.out.frozen 4
      have f5 := HZ.out.frozen 5
      clear HX
      go_wp2
      (try simp only [Exit.inBlock, Exit.then])
      refine bodyPost_ret (results_cell_row rfl _ _ _ _ _ _ _ rfl (show Blk _ _ _ _ by with_reducible exact fin6 HZ.out _ _ _ _ _ _) Tryd.underlying30 rfl (by kernel_rfl)) rfl ?_
      rw [HFX.out]
      have hfin := mw_set (mw_set (mw_set (mw_set (mw_set (mw_set HM.out 0 (.slice Ae x.ents.length ce)) 1 (.bool x.full)) 2 (.slice Ab x.blocks.length cb)) 3 (.slice Ap x.payload.length cp)) 4 (.slice Ar x.pres.length cr)) 5 (.int .i32 x.pending)
      exact ⟨_, rfl, MW.val hfin, hfin.bel⟩
end Go.Proofs.YtocdbecakefnnaaDoor
