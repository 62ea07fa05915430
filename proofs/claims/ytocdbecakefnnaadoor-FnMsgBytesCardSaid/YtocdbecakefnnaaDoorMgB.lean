/- The bytes of messages, and their pieces in memory behind pointers. -/
import Derived.Test.YtocdbecakefnnaaDoorMsQ
import Derived.Test.YtocdbecakefnnaaDoorMgT
namespace Go.Proofs.YtocdbecakefnnaaDoor
open Go.RowKit

/-- A signed number in 64 bits. -/
def u64z (z : Int) : Nat := (z % 18446744073709551616).toNat
theorem u64z_lt (z : Int) : u64z z < 18446744073709551616 := by unfold u64z; omega
theorem u64z_wrap (z : Int) : IntKind.u64.wrap z = (u64z z : Int) := by
  simp [IntKind.wrap, IntKind.bits, IntKind.signed, u64z]
  omega
def pieceB (key : UInt8) (l : List UInt8) : List UInt8 := key :: (uv l.length ++ l)
def numB (key : UInt8) (z : Int) : List UInt8 := if z = 0 then [] else key :: uv (u64z z)
def flagB (key : UInt8) (b : Bool) : List UInt8 := if b then [key, 1] else []
def entB (e : Ent) : List UInt8 := pieceB 10 e.cid ++ (numB 16 e.prio ++ (flagB 24 e.cancel ++ (numB 32 e.type ++ flagB 40 e.dont)))
def preB (p : Pre) : List UInt8 := pieceB 10 p.cid ++ numB 16 p.type
def partB (key : UInt8) (l : List UInt8) : List UInt8 := if 0 < l.length then pieceB key l else []
def bloB (b : Blo) : List UInt8 := partB 10 b.pre ++ partB 18 b.data
def wantB (m : Msg) : List UInt8 := (m.ents.flatMap fun e => pieceB 10 (entB e)) ++ flagB 16 m.full
def msgB (m : Msg) : List UInt8 := pieceB 10 (wantB m) ++ ((m.blocks.flatMap (pieceB 18)) ++ ((m.payload.flatMap fun b => pieceB 26 (bloB b)) ++ ((m.pres.flatMap fun p => pieceB 34 (preB p)) ++ numB 40 m.pending)))
theorem pieceB_length (key : UInt8) (l : List UInt8) : (pieceB key l).length = 1 + l.length + (uv l.length).length := by simp [pieceB]; omega
theorem numB_some {z : Int} (key : UInt8) (h : z ≠ 0) : numB key z = key :: uv (u64z z) := if_neg h
theorem numB_none (key : UInt8) : numB key 0 = [] := rfl
theorem numB_le (key : UInt8) (z : Int) : (numB key z).length ≤ 11 := by
  unfold numB
  split
  · simp
  · have := uv_le _ (u64z_lt z)
    simp
    omega
theorem flagB_le (key : UInt8) (b : Bool) : (flagB key b).length ≤ 2 := by cases b <;> simp [flagB]
/-- A cell of a piece, below block B. -/
def FV.InB (w : World) (B : Nat) : FV → Value → Prop
  | .lit u, v => v = u
  | .bytes l, v => ∃ A c, v = .slice A l.length c ∧ l.length ≤ c ∧ Reads w B 1 A l.length (u8s l)
/-- A piece in memory: its fields from place o of block b on. -/
structure ObjB (w : World) (B b o : Nat) (fs : List FV) : Prop where
  lt : b < B
  at_ : ∀ (i : Nat) (f : FV), fs[i]? = some f → ∃ u, w.cell? ⟨b, o + i, none⟩ = some u ∧ FV.InB w B f u
theorem FV.InB.below {w w' : World} {B : Nat} {f : FV} {v : Value} (h : FV.InB w B f v) (hb : Below B w w') : FV.InB w' B f v := by
  cases f with
  | lit u => exact h
  | bytes l =>
    obtain ⟨A, c, e, hc, hr⟩ := h
    exact ⟨A, c, e, hc, hr.below hb⟩
theorem ObjB.below {w w' : World} {B b o : Nat} {fs : List FV} (h : ObjB w B b o fs) (hb : Below B w w') : ObjB w' B b o fs :=
  ⟨h.lt, fun i f hf => by
    obtain ⟨u, h1, h2⟩ := h.at_ i f hf
    exact ⟨u, (hb.cell (p := ⟨b, o + i, none⟩) h.lt).trans h1, h2.below hb⟩⟩
theorem FV.InB.more {w : World} {B B' : Nat} {f : FV} {v : Value} (h : FV.InB w B f v) (hB : B ≤ B') : FV.InB w B' f v := by
  cases f with
  | lit u => exact h
  | bytes l =>
    obtain ⟨A, c, e, hc, hr⟩ := h
    exact ⟨A, c, e, hc, hr.more hB⟩
theorem ObjB.more {w : World} {B B' b o : Nat} {fs : List FV} (h : ObjB w B b o fs) (hB : B ≤ B') : ObjB w B' b o fs :=
  ⟨Nat.lt_of_lt_of_le h.lt hB, fun i f hf => by
    obtain ⟨u, h1, h2⟩ := h.at_ i f hf
    exact ⟨u, h1, h2.more hB⟩⟩
/-- A field that holds a value. -/
theorem ObjB.lit {w : World} {B b o i : Nat} {fs : List FV} {u : Value} (h : ObjB w B b o fs) (hf : fs[i]? = some (.lit u)) : w.cell? ⟨b, o + i, none⟩ = some u := by
  obtain ⟨v, h1, h2⟩ := h.at_ i _ hf
  rw [h1]
  exact congrArg some h2
theorem ObjB.byt {w : World} {B b o i : Nat} {fs : List FV} {l : List UInt8} (h : ObjB w B b o fs) (hf : fs[i]? = some (.bytes l)) : ∃ A c, w.cell? ⟨b, o + i, none⟩ = some (.slice A l.length c) ∧ l.length ≤ c ∧ Reads w B 1 A l.length (u8s l) := by
  obtain ⟨v, h1, A, c, rfl, h3, h4⟩ := h.at_ i _ hf
  exact ⟨A, c, h1, h3, h4⟩
/-- A row of pieces, below block B. -/
def RowO {α : Type} (w : World) (B size : Nat) (F : α → List FV) (l : List α) (v : Value) : Prop := ∃ A c, v = .slice A l.length c ∧ l.length ≤ c ∧ (0 < l.length → ∃ b o, A = some ⟨b, o, none⟩ ∧ ∀ (j : Nat) (x : α), l[j]? = some x → ObjB w B b (o + j * size) (F x))
theorem RowO.below {α : Type} {w w' : World} {B size : Nat} {F : α → List FV} {l : List α} {v : Value} (h : RowO w B size F l v) (hb : Below B w w') : RowO w' B size F l v := by
  obtain ⟨A, c, e, hc, h1⟩ := h
  refine ⟨A, c, e, hc, fun h0 => ?_⟩
  obtain ⟨b, o, ha, hx⟩ := h1 h0
  exact ⟨b, o, ha, fun j x hj => (hx j x hj).below hb⟩
theorem inB_of {w : World} {f : FV} {v : Value} (h : FV.In w Bare f v) : FV.InB w w.heap.size f v := by
  cases f with
  | lit u => exact h.1
  | bytes l =>
    obtain ⟨A, c, e, hc, hr, _⟩ := h
    exact ⟨A, c, e, hc, hr⟩
theorem RowF.row {α : Type} {w : World} {s : Nat} {F : α → List FV} (hF : ∀ x, (F x).length = s) (hs : 0 < s) {l : List α} {v : Value} (h : RowF w s l.length (l.flatMap F) v) : RowO w w.heap.size s F l v := by
  obtain ⟨A, c, xs, rfl, hc, hr, hf⟩ := id h
  refine ⟨A, c, rfl, hc, fun h0 => ?_⟩
  obtain ⟨b, o, rfl, hb, _⟩ := h.field hF hs (Below.refl _ _) (List.getElem?_eq_getElem h0) rfl
  refine ⟨b, o, rfl, fun j x hj => ⟨hb, fun i f hi => ?_⟩⟩
  obtain ⟨b', o', e', _, hc'⟩ := h.field hF hs (Below.refl _ _) hj rfl
  injection e' with e'
  injection e' with e1 e2
  subst e1 e2
  obtain ⟨u, h1, h2⟩ := hc' i f hi
  exact ⟨u, h1, inB_of h2⟩
end Go.Proofs.YtocdbecakefnnaaDoor
