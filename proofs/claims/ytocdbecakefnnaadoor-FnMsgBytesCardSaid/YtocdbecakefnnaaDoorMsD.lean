/- Parts and messages as data, and as records in memory. -/
import Derived.Test.YtocdbecakefnnaaDoorM4
import Derived.Test.YtocdbecakefnnaaDoorIdC
namespace Go.Proofs.YtocdbecakefnnaaDoor
open Go.RowKit

/-- A part of a message, as the law takes it. -/
structure Prt where
  kind : Nat
  cid : Nat
  prio : Int
  type : Int
  cancel : Bool
  dont : Bool
  pre : List UInt8
  data : List UInt8
structure Ent where
  cid : List UInt8
  prio : Int
  cancel : Bool
  type : Int
  dont : Bool
structure Blo where
  pre : List UInt8
  data : List UInt8
structure Pre where
  cid : List UInt8
  type : Int
structure Msg where
  ents : List Ent
  full : Bool
  blocks : List (List UInt8)
  payload : List Blo
  pres : List Pre
  pending : Int
def partF (p : Prt) : List FV := [.lit (.int .u8 (p.kind : Nat)), .lit (.int .u8 (p.cid : Nat)), .lit (.int .i32 p.prio), .lit (.int .i32 p.type), .lit (.bool p.cancel), .lit (.bool p.dont), .bytes p.pre, .bytes p.data]
def entF (e : Ent) : List FV := [.bytes e.cid, .lit (.int .i32 e.prio), .lit (.bool e.cancel), .lit (.int .i32 e.type), .lit (.bool e.dont)]
def blkF (l : List UInt8) : List FV := [.bytes l]
def bloF (b : Blo) : List FV := [.bytes b.pre, .bytes b.data]
def preF (p : Pre) : List FV := [.bytes p.cid, .lit (.int .i32 p.type)]
/-- What a part adds to a message. -/
def addP (m : Msg) (p : Prt) : Msg :=
  if p.kind % 4 = 0 then { m with ents := m.ents ++ [⟨identB p.cid, p.prio, p.cancel, p.type, p.dont⟩] }
  else if p.kind % 4 = 1 then { m with blocks := m.blocks ++ [p.data] }
  else if p.kind % 4 = 2 then { m with payload := m.payload ++ [⟨p.pre, p.data⟩] }
  else { m with pres := m.pres ++ [⟨identB p.cid, p.type⟩] }
def msgOf (l : List Prt) (full : Bool) (pending : Int) : Msg := l.foldl addP ⟨[], full, [], [], [], pending⟩
theorem addP_full (m : Msg) (p : Prt) : (addP m p).full = m.full ∧ (addP m p).pending = m.pending := by
  unfold addP
  split
  · exact ⟨rfl, rfl⟩
  · split
    · exact ⟨rfl, rfl⟩
    · split <;> exact ⟨rfl, rfl⟩
theorem addP_count (m : Msg) (p : Prt) : (addP m p).ents.length + (addP m p).blocks.length + (addP m p).payload.length + (addP m p).pres.length = m.ents.length + m.blocks.length + m.payload.length + m.pres.length + 1 := by
  unfold addP
  split
  · simp; omega
  · split
    · simp; omega
    · split
      · simp; omega
      · simp; omega
/-- A message by value. -/
def MsgV (w : World) (m : Msg) (v : Value) : Prop := ∃ e b p r, v = .agg #[e, .bool m.full, b, p, r, .int .i32 m.pending] ∧ RowF w 5 m.ents.length (m.ents.flatMap entF) e ∧ RowF w 1 m.blocks.length (m.blocks.flatMap blkF) b ∧ RowF w 2 m.payload.length (m.payload.flatMap bloF) p ∧ RowF w 2 m.pres.length (m.pres.flatMap preF) r
theorem MsgV.below {w w' : World} {m : Msg} {v : Value} (h : MsgV w m v) (hb : Below w.heap.size w w') : MsgV w' m v := by
  obtain ⟨e, b, p, r, h1, h2, h3, h4, h5⟩ := h
  exact ⟨e, b, p, r, h1, h2.below hb, h3.below hb, h4.below hb, h5.below hb⟩
theorem flat_at {α : Type} (F : α → List FV) (s : Nat) (hF : ∀ x, (F x).length = s) : ∀ (l : List α) (j i : Nat) (x : α), l[j]? = some x → i < s → (l.flatMap F)[j * s + i]? = (F x)[i]?
  | [], _, _, _, h, _ => by simp at h
  | y :: t, 0, i, x, h, hi => by
    have h : y = x := by simpa using h
    subst h
    rw [List.flatMap_cons, Nat.zero_mul, Nat.zero_add, List.getElem?_append_left (by rw [hF]; exact hi)]
  | y :: t, j + 1, i, x, h, hi => by
    have h2 := flat_at F s hF t j i x (by simpa using h) hi
    have e : (j + 1) * s + i - (F y).length = j * s + i := by rw [hF, Nat.add_mul]; omega
    rw [List.flatMap_cons, List.getElem?_append_right (by rw [hF, Nat.add_mul]; omega), e]
    exact h2
theorem flat_len {α : Type} (F : α → List FV) (s : Nat) (hF : ∀ x, (F x).length = s) (l : List α) : (l.flatMap F).length = l.length * s := by
  induction l with
  | nil => simp
  | cons y t ih => rw [List.flatMap_cons, List.length_append, hF, ih, List.length_cons, Nat.add_mul]; omega
theorem flat_snoc {α : Type} (F : α → List FV) (l : List α) (x : α) : (l ++ [x]).flatMap F = l.flatMap F ++ F x := by simp
/-- A field of a record of a row. -/
theorem RowF.field {α : Type} {F : α → List FV} {s : Nat} (hF : ∀ x, (F x).length = s) (hs : 0 < s) {w W : World} {l : List α} {A : Option Addr} {n c : Nat} (h : RowF w s n (l.flatMap F) (.slice A n c)) (hW : Below w.heap.size w W) {j : Nat} {x : α} (hj : l[j]? = some x) (hn : l.length = n) :
    ∃ b o, A = some ⟨b, o, none⟩ ∧ b < w.heap.size ∧ ∀ i f, (F x)[i]? = some f → ∃ u, W.cell? ⟨b, o + j * s + i, none⟩ = some u ∧ FV.In w Bare f u := by
  have hjn : j < n := by rw [← hn]; exact (List.getElem?_eq_some_iff.1 hj).1
  obtain ⟨b, o, c', e, _, hb, _, hc⟩ := h.cells hs (Below.refl _ _) hjn
  injection e with e1 e2 e3
  subst e1
  refine ⟨b, o, rfl, hb, fun i f hf => ?_⟩
  have hi : i < s := by rw [← hF x]; exact (List.getElem?_eq_some_iff.1 hf).1
  obtain ⟨f', u, h1, h2, h3⟩ := hc i hi
  rw [flat_at F s hF l j i x hj hi, hf] at h1
  injection h1 with h1
  subst h1
  exact ⟨u, (hW.cell (p := ⟨b, o + j * s + i, none⟩) hb).trans h2, h3⟩
/-- A part of a row of parts, as a later world has it. -/
theorem part_cells {w W : World} {ps : List Prt} {A : Option Addr} {n c : Nat} (h : RowF w 8 n (ps.flatMap partF) (.slice A n c)) (hn : ps.length = n) (hW : Below w.heap.size w W) {j : Nat} {p : Prt} (hj : ps[j]? = some p) :
    ∃ b o A1 c1 A2 c2, A = some ⟨b, o, none⟩ ∧ b < w.heap.size ∧ (W.cell? ⟨b, o + j * 8, none⟩ = some (.int .u8 (p.kind : Nat)) ∧ W.cell? ⟨b, o + j * 8 + 1, none⟩ = some (.int .u8 (p.cid : Nat)) ∧ W.cell? ⟨b, o + j * 8 + 2, none⟩ = some (.int .i32 p.prio) ∧ W.cell? ⟨b, o + j * 8 + 3, none⟩ = some (.int .i32 p.type) ∧
      W.cell? ⟨b, o + j * 8 + 4, none⟩ = some (.bool p.cancel) ∧ W.cell? ⟨b, o + j * 8 + 5, none⟩ = some (.bool p.dont) ∧ W.cell? ⟨b, o + j * 8 + 6, none⟩ = some (.slice A1 p.pre.length c1) ∧ W.cell? ⟨b, o + j * 8 + 7, none⟩ = some (.slice A2 p.data.length c2)) ∧
      FV.In w Bare (.bytes p.pre) (.slice A1 p.pre.length c1) ∧ FV.In w Bare (.bytes p.data) (.slice A2 p.data.length c2) := by
  obtain ⟨b, o, rfl, hb, hc⟩ := h.field (F := partF) (fun x => rfl) (by omega) hW hj hn
  obtain ⟨_, k0, rfl, _⟩ := hc 0 _ rfl
  obtain ⟨_, k1, rfl, _⟩ := hc 1 _ rfl
  obtain ⟨_, k2, rfl, _⟩ := hc 2 _ rfl
  obtain ⟨_, k3, rfl, _⟩ := hc 3 _ rfl
  obtain ⟨_, k4, rfl, _⟩ := hc 4 _ rfl
  obtain ⟨_, k5, rfl, _⟩ := hc 5 _ rfl
  obtain ⟨u6, k6, f6⟩ := hc 6 _ rfl
  obtain ⟨u7, k7, f7⟩ := hc 7 _ rfl
  have f6' := f6
  have f7' := f7
  obtain ⟨A1, c1, rfl, _⟩ := f6
  obtain ⟨A2, c2, rfl, _⟩ := f7
  exact ⟨b, o, A1, c1, A2, c2, rfl, hb, ⟨k0, k1, k2, k3, k4, k5, k6, k7⟩, f6', f7'⟩
/-- Bytes that the call has just made. -/
theorem in_own {w w1 : World} {G : Nat → Prop} {e : TypeId} {A : Option Addr} {c : Nat} {l : List UInt8} (h : w1.ownsRow w.heap.size e 1 (.slice A l.length c) l.length (u8s l)) (hG : ∀ k, G k → k < w.heap.size) : FV.In w1 G (.bytes l) (.slice A l.length c) := by
  obtain ⟨A', c', e1, hc, hr⟩ := own_shape h
  injection e1 with e1 e2 e3
  subst e1 e3
  refine ⟨A, c, rfl, hc, hr, fun h0 ad ea hg => ?_⟩
  obtain ⟨g, c2, e4, _, hb, _⟩ := own_form h h0
  injection e4 with e4
  rw [ea] at e4
  injection e4 with e4
  subst e4
  have : g < w.heap.size := hG _ hg
  omega
/-- Bytes that were there. -/
theorem in_old {w W : World} {G : Nat → Prop} {f : FV} {v : Value} (h : FV.In w Bare f v) (hW : Below w.heap.size w W) (hG : ∀ k, G k → w.heap.size ≤ k) : FV.In W G f v :=
  h.turn (only_of_below hW none) (fun k e => by cases e) (fun k hk => .inr (hG k hk))
theorem infoPart : (Tryd.prog.info? 44).map (fun i => (i.zero, i.size, i.bytes)) = some (some (.agg #[.int .u8 0, .int .u8 0, .int .i32 0, .int .i32 0, .bool false, .bool false, .slice none 0 0, .slice none 0 0]), 8, 64) := by kernel_rfl
theorem infoEnt : (Tryd.prog.info? 50).map (fun i => (i.zero, i.size, i.bytes)) = some (some (.agg #[.slice none 0 0, .int .i32 0, .bool false, .int .i32 0, .bool false]), 5, 40) := by kernel_rfl
theorem infoByt : (Tryd.prog.info? 32).map (fun i => (i.zero, i.size, i.bytes)) = some (some (.slice none 0 0), 1, 24) := by kernel_rfl
theorem infoBlo : (Tryd.prog.info? 52).map (fun i => (i.zero, i.size, i.bytes)) = some (some (.agg #[.slice none 0 0, .slice none 0 0]), 2, 48) := by kernel_rfl
theorem infoPre : (Tryd.prog.info? 54).map (fun i => (i.zero, i.size, i.bytes)) = some (some (.agg #[.slice none 0 0, .int .i32 0]), 2, 32) := by kernel_rfl
end Go.Proofs.YtocdbecakefnnaaDoor
