/- The thin package's plainPbNode: a node's message as data. -/
import Derived.Test.YthgbhaackihbjaaDoorPnQ
import Derived.Test.YthgbhaackihbjaaDoorPnN
namespace Go.Proofs.YthgbhaackihbjaaDoor
open Go.RowKit

theorem step_append_any {P : Program} (w : World) {ops : Array Oper} {o : Oper} {a : Act} {K : Act → World → Prop} {Q : Exit → Act → World → Prop} {E : Prop} (hgd : o.guard = none) (s x : Operand) (t : TypeId)
    (ho : o.op = .call { callee := .builtin .append, args := #[s, x], argTypes := #[t, t] })
    (base : Nat) (e : TypeId) (i : TypeInfo) (z : Value) (size bytes : Nat) (ht : P.underlying t = some (.slice e)) (hi : P.info? e = some i) (hz : i.zero = some z)
    (hsize : i.size = size) (hby : i.bytes = bytes) (hzs : z.cells.size = size) (hsz : 0 < size)
    (v : Value) (n : Nat) (xs : List Value) (hs : a.eval s = v) (hown : w.ownsRow base e size v n xs)
    (B : Nat) (A : Option Addr) (m c : Nat) (news : List Value) (hx : a.eval x = .slice A m c) (hr : Reads w B size A m news) (h1 : ∀ u ∈ news, u.oneCell' = true)
    (h63 : n + m ≤ maxLen) (hbytes : (n + m) * bytes ≤ 140737488355328) (hbase : base ≤ w.heap.size)
    (h : ∀ v' w', w'.ownsRow base e size v' (n + m) (xs ++ news) → w.grownBy w' v.ownBlock → K (a.put o.dst v') w') :
    if Region.wanted o (yielded ops a.tmps) = true then Oper.wp P o a w K Q else E := by
  have hw : Region.wanted o (yielded ops a.tmps) = true := by simp [Region.wanted, hgd]
  rw [if_pos hw]
  obtain ⟨v', w', hrun, h2, h3, h4, h5⟩ := run_append_any (P := P) w base t o.type e i z size bytes ht hi hz hsize hby hzs hsz v n xs hown B A m c news hr h1 h63 hbytes hbase
  unfold Oper.wp execOp
  simp only [ho, resolve, invoke, builtin, Sem.run_bind, Sem.run_pure, Result.andThen_ok, List.map_toArray, List.map_cons, List.map_nil, hs, hx, hrun]
  exact h v' w' h2 h3
/-- A node's message as data. -/
def plMN (m : MN) : PNd := ⟨m.data.isSome, optBytes m.data, m.links.map plML⟩
/-- What the loop of plainPbNode holds. -/
structure XSt (w0 w : World) (lo B bx : Nat) (m : MN) (A : Option Addr) (n : Nat) (ps : List Nat) (Ad : Option Addr) (nd cd : Nat) (vl : Value) (j : Nat) (vs : List Value) : Prop where
  rd : Reads w B 1 A n (ptrs ps)
  ls : ∀ (i q : Nat), ps[i]? = some q → ∃ x, m.links[i]? = some x ∧ LinkObj w lo B q x
  hB : B ≤ w.heap.size
  res : Blk w w0.heap.size 28 #[.bool false, .slice none 0 0, .slice none 0 0]
  blk : Blk w bx 28 #[.bool m.data.isSome, .slice Ad nd cd, vl]
  data : w.ownsRow (w0.heap.size + 1) 5 1 (.slice Ad nd cd) nd (u8s (optBytes m.data))
  row : w.ownsRow (w0.heap.size + 1) 53 6 vl j vs
  lv : LVo w (w0.heap.size + 1) ((m.links.take j).map plML) vs
  below : Below w0.heap.size w0 w
  hbx : w0.heap.size < bx
section
variable {w0 w w' : World} {lo B bx : Nat} {m : MN} {A : Option Addr} {n : Nat} {ps : List Nat} {Ad : Option Addr} {nd cd : Nat} {vl : Value} {j : Nat} {vs : List Value}
theorem XSt.next (h : XSt w0 w lo B bx m A n ps Ad nd cd vl j vs) (hb : Below w.heap.size w w') : XSt w0 w' lo B bx m A n ps Ad nd cd vl j vs :=
  ⟨h.rd.below (hb.mono h.hB), fun i q hq => by
    obtain ⟨x, h1, h2⟩ := h.ls i q hq
    exact ⟨x, h1, h2.below (hb.mono h.hB)⟩, Nat.le_trans h.hB hb.size, h.res.below hb h.res.lt, h.blk.below hb h.blk.lt, own_below h.data hb, own_below h.row hb, h.lv.below hb, below_then h.below h.below.size hb, h.hbx⟩
theorem XSt.drew (h : XSt w0 w lo B bx m A n ps Ad nd cd vl j vs) : XSt w0 w.drew lo B bx m A n ps Ad nd cd vl j vs := h.next (below_drewN (Below.refl _ w) 1)
theorem XSt.row_far (h : XSt w0 w lo B bx m A n ps Ad nd cd vl j vs) (hg : w.grownBy w' vl.ownBlock) : Blk w' bx 28 #[.bool m.data.isSome, .slice Ad nd cd, vl] :=
  h.blk.grown hg fun e => own_blk_ne h.row h.blk (by decide) e.symm
/-- One link more. -/
theorem XSt.add {w5 w8 : World} {x : ML} {A6 : Option Addr} {c6 : Nat} {vl' : Value} (h : XSt w0 w lo B bx m A n ps Ad nd cd vl j vs) (hb : Below w.heap.size w w5) (hx : m.links[j]? = some x) (hh : w5.ownsRow (w0.heap.size + 1) 5 1 (.slice A6 (plML x).hash.length c6) (plML x).hash.length (u8s (plML x).hash)) (hs : (plML x).size < 18446744073709551616)
    (hown : w8.ownsRow (w0.heap.size + 1) 53 6 vl' (j + 1) (vs ++ cellsL (plML x) (.slice A6 (plML x).hash.length c6))) (hg : w5.grownBy w8 vl.ownBlock) (hB0 : B ≤ w0.heap.size) :
    XSt w0 (w8.setCell ⟨bx, 2, none⟩ vl') lo B bx m A n ps Ad nd cd vl' (j + 1) (vs ++ cellsL (plML x) (.slice A6 (plML x).hash.length c6)) := by
  have k := h.next hb
  have hbx := h.hbx
  have hB8 : B ≤ w8.heap.size := Nat.le_trans k.hB hg.size
  have far : ∀ {p : Addr}, p.block < B → w8.cell? p = w5.cell? p := fun {p} hp => World.cell?_of_block (hg.block p.block (Nat.lt_of_lt_of_le hp k.hB) (fun e => by have := own_base k.row _ e.symm; omega))
  have far2 : ∀ {p : Addr}, p.block < B → (w8.setCell ⟨bx, 2, none⟩ vl').cell? p = w5.cell? p := fun {p} hp => (World.cell?_of_block (Below.heap_setCell w8 ⟨bx, 2, none⟩ vl' p.block (by show p.block ≠ bx; omega))).trans (far hp)
  have b1 := k.row_far hg
  have r1 := k.res.grown hg fun e => own_blk_ne k.row k.res (by decide) e.symm
  have d1 := k.data.kept hg (own_own_ne k.data k.row (by decide))
  have l1 := k.lv.kept hg fun _ _ _ _ ho => own_own_ne ho k.row (by decide)
  have h1 := hh.kept hg (own_own_ne hh k.row (by decide))
  have hjl : j < m.links.length := (List.getElem?_eq_some_iff.1 hx).1
  have hxe : m.links[j] = x := (List.getElem?_eq_some_iff.1 hx).2
  have e2 : (m.links.take (j + 1)).map plML = (m.links.take j).map plML ++ [plML x] := by rw [take_snoc _ _ hjl, List.map_append, hxe]; rfl
  refine ⟨k.rd.keep fun p hp => far2 hp, fun i q hq => ?_, by simpa [World.setCell] using hB8, r1.far (by show w0.heap.size ≠ bx; omega) _, b1.set_ 2 _, own_far d1 _ (fun e => own_blk_ne d1 b1 (by decide) e), own_far hown _ (fun e => own_blk_ne hown b1 (by decide) e), ?_, ?_, hbx⟩
  · obtain ⟨y, y1, y2⟩ := k.ls i q hq
    exact ⟨y, y1, y2.alike fun a h1 h2 => far2 h2⟩
  · rw [e2]
    exact (l1.snoc h1 hs).kept (only_set w8 bx 2 vl') fun _ _ _ _ ho => .inr fun e => own_blk_ne ho b1 (by decide) e
  · exact (k.below.grown hg (Nat.le_trans k.below.size (Nat.le_refl _)) (fun g e => by have := own_base k.row g e; omega)).setCell (Nat.le_of_lt hbx) _
end
theorem three_cell {w : World} {p g : Nat} (hne : p ≠ g) (i : Nat) (v0 v1 v2 : Value) : (((w.setCell ⟨g, 0, none⟩ v0).setCell ⟨g, 1, none⟩ v1).setCell ⟨g, 2, none⟩ v2).cell? ⟨p, i, none⟩ = w.cell? ⟨p, i, none⟩ := by
  have k : ∀ (W : World) (j : Nat) (v : Value), (W.setCell ⟨g, j, none⟩ v).cell? ⟨p, i, none⟩ = W.cell? ⟨p, i, none⟩ := fun W j v => World.cell?_of_block (Below.heap_setCell W ⟨g, j, none⟩ v p hne)
  rw [k, k, k]
/-- What stands when the data are cloned. -/
structure X0 (w0 w : World) (lo B : Nat) (m : MN) (A : Option Addr) (n : Nat) (ps : List Nat) (Ad : Option Addr) (nd cd : Nat) : Prop where
  rd : Reads w B 1 A n (ptrs ps)
  ls : ∀ (i q : Nat), ps[i]? = some q → ∃ x, m.links[i]? = some x ∧ LinkObj w lo B q x
  hB : B ≤ w0.heap.size
  res : Blk w w0.heap.size 28 #[.bool false, .slice none 0 0, .slice none 0 0]
  data : w.ownsRow (w0.heap.size + 1) 5 1 (.slice Ad nd cd) nd (u8s (optBytes m.data))
  below : Below w0.heap.size w0 w
theorem X0.mk' {w0 W w : World} {lo B : Nat} {m : MN} {A : Option Addr} {n : Nat} {ps : List Nat} {Ad : Option Addr} {nd cd base : Nat} (rd : Reads W B 1 A n (ptrs ps)) (ls : ∀ (i q : Nat), ps[i]? = some q → ∃ x, m.links[i]? = some x ∧ LinkObj W lo B q x) (hB : B ≤ w0.heap.size) (res : Blk W w0.heap.size 28 #[.bool false, .slice none 0 0, .slice none 0 0]) (hw : Below w0.heap.size w0 W)
    (ho : w.ownsRow base 5 1 (.slice Ad nd cd) nd (u8s (optBytes m.data))) (hb : w0.heap.size + 1 ≤ base) (hb1 : Below W.heap.size W w) : X0 w0 w lo B m A n ps Ad nd cd := by
  have hs := hw.size
  exact ⟨rd.below (hb1.mono (by omega)), fun i q hq => by
    obtain ⟨x, x1, x2⟩ := ls i q hq
    exact ⟨x, x1, x2.below (hb1.mono (by omega))⟩, hB, res.below hb1 res.lt, own_more ho hb, below_then hw hs hb1⟩
theorem X0.fresh {w0 w : World} {lo B : Nat} {m : MN} {A : Option Addr} {n : Nat} {ps : List Nat} {Ad : Option Addr} {nd cd : Nat} (h : X0 w0 w lo B m A n ps Ad nd cd) : XSt w0 (w.alloc (.cells #[.bool m.data.isSome, .slice Ad nd cd, .slice none 0 0] 28)) lo B w.heap.size m A n ps Ad nd cd (.slice none 0 0) 0 [] := by
  have hs := h.below.size
  have hB := h.hB
  have hb := below_one w (.cells #[.bool m.data.isSome, .slice Ad nd cd, .slice none 0 0] 28)
  exact ⟨h.rd.below (hb.mono (by omega)), fun i q hq => by
    obtain ⟨x, x1, x2⟩ := h.ls i q hq
    exact ⟨x, x1, x2.below (hb.mono (by omega))⟩, Nat.le_trans hB (Nat.le_trans hs hb.size), h.res.alloc _, Blk.new _ _ _, h.data.alloc _, World.ownsRow_nil _ _ _ _, LVo.nil _ _, below_alloc h.below _, h.res.lt⟩
theorem X0.old {w0 w : World} {lo B bx : Nat} {m : MN} {A : Option Addr} {n : Nat} {ps : List Nat} {Ad : Option Addr} {nd cd : Nat} (h : X0 w0 w lo B m A n ps Ad nd cd) (hx : Blk w bx 28 #[.bool false, .slice none 0 0, .slice none 0 0]) (hbx : w0.heap.size < bx) : XSt w0 (((w.setCell ⟨bx, 0, none⟩ (.bool m.data.isSome)).setCell ⟨bx, 1, none⟩ (.slice Ad nd cd)).setCell ⟨bx, 2, none⟩ (.slice none 0 0)) lo B bx m A n ps Ad nd cd (.slice none 0 0) 0 [] := by
  have hs := h.below.size
  have hB := h.hB
  have hb : Below B w (((w.setCell ⟨bx, 0, none⟩ (.bool m.data.isSome)).setCell ⟨bx, 1, none⟩ (.slice Ad nd cd)).setCell ⟨bx, 2, none⟩ (.slice none 0 0)) := three_below (Below.refl B w) (by omega) _ _ _
  have hne : (Value.slice Ad nd cd).ownBlock ≠ some bx := fun e => own_blk_ne h.data hx (by decide) e
  exact ⟨h.rd.below hb, fun i q hq => by
    obtain ⟨x, x1, x2⟩ := h.ls i q hq
    exact ⟨x, x1, x2.below hb⟩, Nat.le_trans hB (Nat.le_trans hs (by simp [World.setCell])), ((h.res.far (p := ⟨bx, 0, none⟩) (by show w0.heap.size ≠ bx; omega) _).far (p := ⟨bx, 1, none⟩) (by show w0.heap.size ≠ bx; omega) _).far (p := ⟨bx, 2, none⟩) (by show w0.heap.size ≠ bx; omega) _, three_set hx _ _ _, own_far (own_far (own_far h.data _ hne) _ hne) _ hne, World.ownsRow_nil _ _ _ _, LVo.nil _ _, three_below h.below (by omega) _ _ _, hbx⟩
/-- A node by value whose rows are a call's own, from lo on. -/
structure NOwn (w : World) (lo : Nat) (m : MN) (Ad : Option Addr) (nd cd : Nat) (Al : Option Addr) (j cl : Nat) (vs : List Value) : Prop where
  data : w.ownsRow lo 5 1 (.slice Ad nd cd) nd (u8s (optBytes m.data))
  row : w.ownsRow lo 53 6 (.slice Al j cl) j vs
  lv : LVo w lo (m.links.map plML) vs
  len : m.links.length = j
  max : j ≤ maxLen
theorem NOwn.far {w : World} {lo : Nat} {m : MN} {Ad Al : Option Addr} {nd cd cl j : Nat} {vs : List Value} (h : NOwn w lo m Ad nd cd Al j cl vs) {g : Nat} (hg : g < lo) (i : Nat) (u : Value) : NOwn (w.setCell ⟨g, i, none⟩ u) lo m Ad nd cd Al j cl vs :=
  ⟨own_far h.data u (fun e => by have := own_base h.data g e; omega), own_far h.row u (fun e => by have := own_base h.row g e; omega), h.lv.far hg i u, h.len, h.max⟩
theorem NOwn.below {w w' : World} {lo : Nat} {m : MN} {Ad Al : Option Addr} {nd cd cl j : Nat} {vs : List Value} (h : NOwn w lo m Ad nd cd Al j cl vs) (hb : Below w.heap.size w w') : NOwn w' lo m Ad nd cd Al j cl vs :=
  ⟨own_below h.data hb, own_below h.row hb, h.lv.below hb, h.len, h.max⟩
theorem NOwn.arg {w : World} {lo : Nat} {m : MN} {Ad Al : Option Addr} {nd cd cl j : Nat} {vs : List Value} (h : NOwn w lo m Ad nd cd Al j cl vs) : NodeArg w w.heap.size (plMN m) (.agg #[.bool m.data.isSome, .slice Ad nd cd, .slice Al j cl]) := by
  have d3 := h.data
  have l3 := h.row
  obtain ⟨A', c', e, b1, b2, b3⟩ := own_shape2 d3
  injection e with e1 e2 e3
  subst e1 e3
  obtain ⟨A'', c'', e, k1, k2, k3⟩ := own_shape2 l3
  injection e with e1 e2 e3
  subst e1 e3
  exact ⟨Ad, nd, cd, Al, j, cl, rfl, b1, b2, b3, k1, h.lv.links (by rw [List.length_map]; exact h.len) h.max l3⟩
theorem XSt.own {w0 w : World} {lo B bx : Nat} {m : MN} {A : Option Addr} {n : Nat} {ps : List Nat} {Ad Al : Option Addr} {nd cd cl j : Nat} {vs : List Value} (h : XSt w0 w lo B bx m A n ps Ad nd cd (.slice Al j cl) j vs) (hj : m.links.length = j) (hm : j ≤ maxLen) : NOwn w (w0.heap.size + 1) m Ad nd cd Al j cl vs := by
  have hlv := h.lv
  rw [List.take_of_length_le (by omega)] at hlv
  exact ⟨h.data, h.row, hlv, hj, hm⟩
theorem NOwn.more {w : World} {lo lo' : Nat} {m : MN} {Ad Al : Option Addr} {nd cd cl j : Nat} {vs : List Value} (h : NOwn w lo m Ad nd cd Al j cl vs) (hl : lo' ≤ lo) : NOwn w lo' m Ad nd cd Al j cl vs :=
  ⟨own_more h.data hl, own_more h.row hl, ⟨h.lv.len, fun i l hl2 => by
    obtain ⟨A, c, a1, a2, a3⟩ := h.lv.at_ i l hl2
    exact ⟨A, c, own_more a1 hl, a2, a3⟩⟩, h.len, h.max⟩
/-- A node by value comes back, all of it new. -/
structure PnIs (w : World) (m : MN) (e : Ending) (w' : World) : Prop where
  below : Below w.heap.size w w'
  ret : ∃ Ad nd cd Al j cl vs, e = .returned (.agg #[.bool m.data.isSome, .slice Ad nd cd, .slice Al j cl]) ∧ NOwn w' w.heap.size m Ad nd cd Al j cl vs
set_option maxRecDepth 100000 in
set_option maxHeartbeats 8000000 in
theorem plainNode_any {w : World} {lo B p : Nat} {m : MN} (h : NodeObj w lo B p m) (hB : B ≤ w.heap.size) (hd : (optBytes m.data).length ≤ 1000000) (hk : m.links.length ≤ 1000000) (hl : ∀ x ∈ m.links, (optBytes x.hash).length ≤ 1000000) :
    Calls Tryd.prog 19 #[.pointer (some ⟨p, 0, none⟩)] w (PnIs w m) := by
  have hb0 := below_one w (.cells #[.bool false, .slice none 0 0, .slice none 0 0] 28)
  have h1 := h.below (hb0.mono hB)
  obtain ⟨A, n, c, ps, k0, hnc, hln, hrp, hps⟩ := h1.ls
  obtain ⟨vd, k1, A1, c1, rfl, hA1, hc1, hr1, -⟩ := h1.data
  obtain ⟨nd, hnd⟩ : ∃ nd, (optBytes m.data).length = nd := ⟨_, rfl⟩
  rw [hnd] at k1 hd hr1 hc1
  have hpB := h.lt
  have hp1 : p < w.heap.size := by omega
  have hpne : p ≠ w.heap.size := by omega
  have h48 : nd ≤ 140737488355328 := by omega
  have HC := Lib.hid (fun W (hr : Reads W B 1 A1 nd (u8s (optBytes m.data))) hB => clone_u8 A1 nd c1 B (u8s (optBytes m.data)) W hr (u8s_one _) h48 hB)
  have HR1 : Hid (Reads (w.alloc (.cells #[.bool false, .slice none 0 0, .slice none 0 0] 28)).drew B 1 A1 nd (u8s (optBytes m.data))) := hr1
  have HRP := Lib.hid hrp
  have HPS := Lib.hid hps
  have HLN := Lib.hid hln
  have HL := Lib.hid hl
  have HND := Lib.hid hnd
  have HA1 := Lib.hid hA1
  have hnn := neq_nil
  have HB0 := Lib.hid hb0
  have HBW := Lib.hid (Nat.le_trans hB hb0.size)
  have HBW1 : Hid (B ≤ (w.alloc (.cells #[.bool false, .slice none 0 0, .slice none 0 0] 28)).drew.heap.size) := HBW.out
  have HR0 := Lib.hid (Blk.new w 28 #[.bool false, .slice none 0 0, .slice none 0 0])
  clear h h1 hb0 hrp hps hln hl hnd hA1 hr1 hc1
  go_enter Tryd.func19, Tryd.ntmps19
  go_upto_region 1 with fail
  go_cut [3] (fun s3 wx => ∃ (bx : Nat) (Ad : Option Addr) (cd : Nat), s3 = .pointer (some ⟨bx, 0, none⟩) ∧ Hid (XSt w wx lo B bx m A n ps Ad nd cd (.slice none 0 0) 0 []))
  case first =>
    have HW1 := Lib.hid (below_drewN HB0.out 1)
    have HW2 := Lib.hid (below_drewN (below_alloc HB0.out (.cells #[.bool false, .slice none 0 0, .slice none 0 0] 28)) 1)
    have HR2 : Hid (Reads ((w.alloc (.cells #[.bool false, .slice none 0 0, .slice none 0 0] 28)).alloc (.cells #[.bool false, .slice none 0 0, .slice none 0 0] 28)).drew B 1 A1 nd (u8s (optBytes m.data))) := (show Reads (w.alloc (.cells #[.bool false, .slice none 0 0, .slice none 0 0] 28)) B 1 A1 nd (u8s (optBytes m.data)) from HR1.out).alloc HBW.out (.cells #[.bool false, .slice none 0 0, .slice none 0 0] 28)
    have HBW2 : Hid (B ≤ ((w.alloc (.cells #[.bool false, .slice none 0 0, .slice none 0 0] 28)).alloc (.cells #[.bool false, .slice none 0 0, .slice none 0 0] 28)).drew.heap.size) := Nat.le_trans HBW.out (show _ ≤ ((w.alloc (.cells #[.bool false, .slice none 0 0, .slice none 0 0] 28)).alloc (.cells #[.bool false, .slice none 0 0, .slice none 0 0] 28)).heap.size by simp)
    have HX2 := Lib.hid (Blk.new (w.alloc (.cells #[.bool false, .slice none 0 0, .slice none 0 0] 28)) 28 #[.bool false, .slice none 0 0, .slice none 0 0])
    rw [World.size_alloc] at HX2
    have HRR1 : Hid (Reads (w.alloc (.cells #[.bool false, .slice none 0 0, .slice none 0 0] 28)).drew B 1 A n (ptrs ps)) := HRP.out
    have HLL1 : Hid (∀ (i q : Nat), ps[i]? = some q → ∃ x, m.links[i]? = some x ∧ LinkObj (w.alloc (.cells #[.bool false, .slice none 0 0, .slice none 0 0] 28)).drew lo B q x) := fun i q hq => by
      obtain ⟨x, x1, x2⟩ := HPS.out i q hq
      exact ⟨x, x1, x2.below (below_drewN (Below.refl _ _) 1)⟩
    have HRR2 : Hid (Reads ((w.alloc (.cells #[.bool false, .slice none 0 0, .slice none 0 0] 28)).alloc (.cells #[.bool false, .slice none 0 0, .slice none 0 0] 28)).drew B 1 A n (ptrs ps)) := (HRP.out.alloc HBW.out (.cells #[.bool false, .slice none 0 0, .slice none 0 0] 28)).drew
    have HLL2 : Hid (∀ (i q : Nat), ps[i]? = some q → ∃ x, m.links[i]? = some x ∧ LinkObj ((w.alloc (.cells #[.bool false, .slice none 0 0, .slice none 0 0] 28)).alloc (.cells #[.bool false, .slice none 0 0, .slice none 0 0] 28)).drew lo B q x) := fun i q hq => by
      obtain ⟨x, x1, x2⟩ := HPS.out i q hq
      exact ⟨x, x1, (x2.below ((below_one _ (.cells #[.bool false, .slice none 0 0, .slice none 0 0] 28)).mono HBW.out)).below (below_drewN (Below.refl _ _) 1)⟩
    have HBB := Lib.hid hB
    have hpne2 : p ≠ w.heap.size + 1 := by omega
    have hkk := cell_alloc k1 (.cells #[.bool false, .slice none 0 0, .slice none 0 0] 28)
    have hz1 : Hid (w.heap.size + 1 ≤ (w.alloc (.cells #[.bool false, .slice none 0 0, .slice none 0 0] 28)).drew.heap.size) := by show _ ≤ (w.alloc (.cells #[.bool false, .slice none 0 0, .slice none 0 0] 28)).heap.size; rw [World.size_alloc]; exact Nat.le_refl _
    have hz2 : Hid (w.heap.size + 1 ≤ ((w.alloc (.cells #[.bool false, .slice none 0 0, .slice none 0 0] 28)).alloc (.cells #[.bool false, .slice none 0 0, .slice none 0 0] 28)).drew.heap.size) := by show _ ≤ ((w.alloc (.cells #[.bool false, .slice none 0 0, .slice none 0 0] 28)).alloc (.cells #[.bool false, .slice none 0 0, .slice none 0 0] 28)).heap.size; rw [World.size_alloc, World.size_alloc]; omega
    go_region_held3 (fun w' => w'.cell? ⟨p, 1, none⟩ = some (.slice A1 nd c1)) (first | (with_reducible exact k1) | (with_reducible exact cell_alloc k1 _) | (with_reducible exact hkk) | exact k1 | exact hkk | exact (three_cell hpne2 _ _ _ _).trans k1) (first | (go_at_call 18; (with_reducible refine (HC.out (w.alloc (.cells #[.bool false, .slice none 0 0, .slice none 0 0] 28)).drew HR1.out HBW1.out).mono ?_); clear HC; rintro e w1 ⟨⟨v1, rfl, ho, -⟩, hb⟩; obtain ⟨A9, c9, rfl, -, -⟩ := own_shape ho; have HXA := Lib.hid (X0.mk' HRR1.out HLL1.out HBB.out HR0.out.drew HW1.out ho hz1.out hb); have k9 : w1.cell? ⟨p, 1, none⟩ = some (.slice A1 nd c1) := (hb.cell (p := ⟨p, 1, none⟩) (by have := hz1.out; show p < _; omega)).trans k1; clear k1 hb ho; have k1 := k9; clear k9) | (go_at_call 18; (with_reducible refine (HC.out ((w.alloc (.cells #[.bool false, .slice none 0 0, .slice none 0 0] 28)).alloc (.cells #[.bool false, .slice none 0 0, .slice none 0 0] 28)).drew HR2.out HBW2.out).mono ?_); clear HC; rintro e w1 ⟨⟨v1, rfl, ho, -⟩, hb⟩; obtain ⟨A9, c9, rfl, -, -⟩ := own_shape ho; have HXB := Lib.hid (X0.mk' HRR2.out HLL2.out HBB.out (HR0.out.alloc (.cells #[.bool false, .slice none 0 0, .slice none 0 0] 28)).drew HW2.out ho hz2.out hb); have HX3 := Lib.hid (HX2.out.drew.below hb (by have := hz2.out; show w.heap.size + 1 < ((w.alloc (.cells #[.bool false, .slice none 0 0, .slice none 0 0] 28)).alloc (.cells #[.bool false, .slice none 0 0, .slice none 0 0] 28)).heap.size; rw [World.size_alloc, World.size_alloc]; omega)); have s0 := HX3.out.cell 0; have s1 := HX3.out.cell 1; have s2 := HX3.out.cell 2; have sf := HX3.out.frozen; have k9 : w1.cell? ⟨p, 1, none⟩ = some (.slice A1 nd c1) := (hb.cell (p := ⟨p, 1, none⟩) (by have := hz2.out; show p < _; omega)).trans hkk; clear k1 hb ho; have k1 := k9; clear k9) | fail)
    · go_wp2
      go_meet
      case rel => exact ⟨_, A9, c9, rfl, by have h := HXA.out.fresh; rw [← is_some HA1.out] at h; exact h⟩
    · go_wp2
      go_meet
      case rel => exact ⟨_, A9, c9, rfl, by have h := HXB.out.old HX3.out (Nat.lt_succ_self _); rw [← is_some HA1.out] at h; exact h⟩
  case rest =>
    obtain ⟨bx, Ad, cd, rfl, HX⟩ := hcut
    have kz0 : wc.cell? ⟨p, 0, none⟩ = some (.slice A n c) := (HX.out.below.cell (p := ⟨p, 0, none⟩) hp1).trans ((HB0.out.cell (p := ⟨p, 0, none⟩) hp1).symm.trans k0)
    have HLK : Hid (∀ (W : World) (q : Nat) (x : ML), LinkObj W lo B q x → B ≤ W.heap.size → x ∈ m.links → Calls Tryd.prog 30 #[.pointer (some ⟨q, 0, none⟩)] W (PlIs W (plML x))) := fun W q x h1 h2 h3 => plainLink_any h1 h2 (HL.out x h3)
    obtain ⟨ipl, hil, hl0, hl1, hl2⟩ := info_parts infoPk
    clear k0 k1
    go_wp2
    go_loopg [22] n (fun k v wr => ∃ (j : Nat) (vl : Value) (vs : List Value), v = .int .i64 j ∧ j ≤ n ∧ Hid (k + j = n) ∧ Hid (XSt w wr lo B bx m A n ps Ad nd cd vl j vs))
    case atStart => exact ⟨0, _, _, rfl, Nat.zero_le _, rfl, HX.out⟩
    case round =>
      obtain ⟨j, vl, vs, rfl, hj, HK, HX⟩ := hrel
      have hn6 : n ≤ 1000000 := by have := HLN.out; omega
      obtain ⟨Al, cl, hvl, -, -⟩ := own_shape HX.out.row
      subst hvl
      by_cases hlt : j < n
      · obtain ⟨b, o, rfl, -, hc⟩ := HX.out.rd.lit hlt
        have hpl : j < ps.length := by have h := HX.out.rd.1; rw [ptrs_length] at h; omega
        obtain ⟨x, hx, hobj⟩ := HX.out.ls j ps[j] (List.getElem?_eq_getElem hpl)
        have hq := hc j (.pointer (some ⟨ps[j], 0, none⟩)) (by simp [ptrs, List.getElem?_eq_getElem hpl])
        generalize ps[j] = q at *
        have HXM : Hid (x ∈ m.links) := List.mem_of_getElem? hx
        have HXJ := Lib.hid hx
        have HOBJ := Lib.hid hobj
        have b1 : Hid (j + 1 ≤ maxLen) := by show j + 1 ≤ _; unfold maxLen; omega
        have b2 : Hid ((j + 1) * 56 ≤ 140737488355328) := by show _ ≤ _; omega
        have k2 := HX.out.blk.cell 2
        have hbxl := HX.out.blk.lt
        have HXD := Lib.hid HX.out.drew
        have HOD : Hid (LinkObj wr.drew lo B q x) := hobj.below (below_drewN (Below.refl _ _) 1)
        clear hc hx hobj
        go_upto_region 5 with fail
        go_region_law (first | (refine step_append_any _ rfl (.tmp 27) (.tmp 30) _ (by rfl) (w.heap.size + 1) 53 ipl _ 6 56 Tryd.underlying26 hil hl0 hl1 hl2 rfl (by decide) (.slice Al j cl) j vs (by rfl) (own_below HXD.out.row (below_alloc HB5.out _)) (w5.heap.size + 1) (some ⟨w5.heap.size, 0, none⟩) 1 1 (cellsL (plML x) (.slice A6 (plML x).hash.length c6)) (by rfl) (Reads.regroup (reads_lit w5 _ (cellsL (plML x) (.slice A6 (plML x).hash.length c6))) (by decide)) (cellsL_one _ _ _ _) b1.out b2.out (by have h1 := HXD.out.blk.lt; have h2 := HXD.out.hbx; have h3 := HB5.out.size; rw [World.size_alloc]; omega) ?_; intro v8 w8 hown8 hg8; obtain ⟨A8, c8, rfl, -, -⟩ := own_shape hown8; have HO8 := Lib.hid hown8; have HG8 := Lib.hid hg8; have k8 : w8.cell? ⟨bx, 2, none⟩ = some (.slice Al j cl) := ((HXD.out.next (below_alloc HB5.out _)).row_far HG8.out).cell 2; have f8 : w8.frozen? ⟨bx, 2, none⟩ = false := ((HXD.out.next (below_alloc HB5.out _)).row_far HG8.out).frozen 2; clear hown8 hg8) | (go_simp; go_at_call 30; (with_reducible refine (HLK.out wr.drew q x HOD.out HXD.out.hB HXM.out).mono ?_); clear HLK; rintro e w5 ⟨hb5, ⟨A6, c6, rfl, ho6⟩, hs6⟩; have HB5 := Lib.hid hb5; have HO6 := Lib.hid (own_more ho6 (show w.heap.size + 1 ≤ wr.drew.heap.size from by have h1 := HXD.out.blk.lt; have h2 := HXD.out.hbx; omega)); have HS6 := Lib.hid hs6; have k5 := (HXD.out.next hb5).blk.cell 2; have q5 := (HXD.out.next hb5).blk.lt; clear hb5 ho6 hs6) | fail)
        all_goals
          go_wp2
          go_roundg (gk - 1)
          case measure => have := HK.out; omega
          case rel => exact ⟨j + 1, _, _, by go_num, hlt, by have := HK.out; show _ = _; omega, HXD.out.add (below_alloc HB5.out _) HXJ.out (own_below HO6.out (below_one w5 _)) HS6.out HO8.out HG8.out hB⟩
      · obtain rfl : j = n := by omega
        have HMX : Hid (j ≤ maxLen) := by show j ≤ _; unfold maxLen; omega
        have kx0 := HX.out.blk.cell 0
        have kx1 := HX.out.blk.cell 1
        have kx2 := HX.out.blk.cell 2
        have kr0 := HX.out.res.cell 0
        have kr1 := HX.out.res.cell 1
        have kr2 := HX.out.res.cell 2
        have fr := HX.out.res.frozen
        go_wp2
        (try simp only [Exit.inBlock, Exit.then])
        refine bodyPost_ret (results_cell_row rfl _ _ _ _ _ _ _ rfl (three_set HX.out.res (.bool m.data.isSome) (.slice Ad nd cd) (.slice Al j cl)) Tryd.underlying28 rfl (by kernel_rfl)) rfl ?_
        exact ⟨three_below HX.out.below (Nat.le_refl _) _ _ _, _, _, _, _, _, _, _, rfl, ((((HX.out.own HLN.out HMX.out).far (Nat.lt_succ_self _) _ _).far (Nat.lt_succ_self _) _ _).far (Nat.lt_succ_self _) _ _).more (Nat.le_succ _)⟩
end Go.Proofs.YthgbhaackihbjaaDoor
