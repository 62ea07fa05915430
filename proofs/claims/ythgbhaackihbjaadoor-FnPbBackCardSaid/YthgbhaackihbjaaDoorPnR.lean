/- A PBLink and a PBNode in memory while they are read: the structs, and what they point to. -/
import Derived.Test.YthgbhaackihbjaaDoorPnL
namespace Go.Proofs.YthgbhaackihbjaaDoor
open Go.RowKit

/-- The struct at block b tells st; what it points to lies from lo on. -/
structure LRep (w : World) (b lo : Nat) (st : PLk) (vh vn vs : Value) : Prop where
  blk : Blk w b 68 #[vh, vn, vs, .slice none 0 0, .int .i32 0]
  blo : b < lo
  hash : w.ownsRow lo 5 1 vh st.hash.length (u8s st.hash)
  hnil : vh = .slice none 0 0 ↔ st.hh = false
  nm : (vn = .pointer none ∧ st.hn = false ∧ st.name = ByteArray.empty) ∨ ∃ q, vn = .pointer (some ⟨q, 0, none⟩) ∧ lo ≤ q ∧ st.hn = true ∧ Blk w q 9 #[.string st.name]
  sz : (vs = .pointer none ∧ st.hs = false ∧ st.size = 0) ∨ ∃ q, vs = .pointer (some ⟨q, 0, none⟩) ∧ lo ≤ q ∧ st.hs = true ∧ Blk w q 24 #[.int .u64 (st.size : Int)]
  ok : st.size < 18446744073709551616
section
variable {w w' : World} {b lo : Nat} {st : PLk} {vh vn vs : Value}
theorem LRep.alloc (h : LRep w b lo st vh vn vs) (o : Obj) : LRep (w.alloc o) b lo st vh vn vs := by
  refine ⟨h.blk.alloc o, h.blo, h.hash.alloc o, h.hnil, ?_, ?_, h.ok⟩
  · rcases h.nm with k | ⟨q, k1, k2, k3, k4⟩
    · exact .inl k
    · exact .inr ⟨q, k1, k2, k3, k4.alloc o⟩
  · rcases h.sz with k | ⟨q, k1, k2, k3, k4⟩
    · exact .inl k
    · exact .inr ⟨q, k1, k2, k3, k4.alloc o⟩
theorem LRep.drew (h : LRep w b lo st vh vn vs) : LRep w.drew b lo st vh vn vs := ⟨h.blk, h.blo, h.hash, h.hnil, h.nm, h.sz, h.ok⟩
theorem LRep.start (w : World) {b : Nat} (hb : Blk w b 68 #[.slice none 0 0, .pointer none, .pointer none, .slice none 0 0, .int .i32 0]) : LRep w b w.heap.size PLk.zero (.slice none 0 0) (.pointer none) (.pointer none) :=
  ⟨hb, hb.lt, World.ownsRow_nil _ _ _ _, ⟨fun _ => rfl, fun _ => rfl⟩, .inl ⟨rfl, rfl, rfl⟩, .inl ⟨rfl, rfl, rfl⟩, by decide⟩
theorem LRep.hash_far (h : LRep w b lo st vh vn vs) (hg : w.grownBy w' vh.ownBlock) : Blk w' b 68 #[vh, vn, vs, .slice none 0 0, .int .i32 0] :=
  h.blk.grown hg fun e => own_blk_ne h.hash h.blk (by decide) e.symm
/-- The hash's row is grown, and laid in the struct. -/
theorem LRep.setHash (h : LRep w b lo st vh vn vs) {d : List UInt8} {vh' : Value} {n : Nat} (hown : w'.ownsRow lo 5 1 vh' n (u8s d)) (hn : n = d.length) (hg : w.grownBy w' vh.ownBlock) (hne : vh' ≠ .slice none 0 0) :
    LRep (w'.setCell ⟨b, 0, none⟩ vh') b lo { st with hh := true, hash := d } vh' vn vs := by
  subst hn
  have hb := h.blo
  refine ⟨(h.hash_far hg).set_ 0 vh', hb, own_far hown _ fun e => by have := own_base hown b e; omega, ⟨fun e => absurd e hne, fun e => (by cases e)⟩, ?_, ?_, h.ok⟩
  · rcases h.nm with k | ⟨q, k1, k2, k3, k4⟩
    · exact .inl k
    · exact .inr ⟨q, k1, k2, k3, (k4.grown hg fun e => own_blk_ne h.hash k4 (by decide) e.symm).far (by show q ≠ b; omega) _⟩
  · rcases h.sz with k | ⟨q, k1, k2, k3, k4⟩
    · exact .inl k
    · exact .inr ⟨q, k1, k2, k3, (k4.grown hg fun e => own_blk_ne h.hash k4 (by decide) e.symm).far (by show q ≠ b; omega) _⟩
theorem LRep.emptyHash (h : LRep w b lo st vh vn vs) (hlo : lo ≤ w.heap.size) {V : List UInt8} (hV : V = []) :
    LRep (((w.setCell ⟨b, 0, none⟩ (.slice none 0 0)).setCell ⟨b, 0, none⟩ (.slice (some ⟨w.heap.size, 0, none⟩) 0 0)).alloc (.cells #[] 5)).drew b lo { st with hh := true, hash := V } (.slice (some ⟨w.heap.size, 0, none⟩) 0 0) vn vs := by
  subst hV
  have hb := h.blo
  have hlt := h.blk.lt
  have hsz : (w.setCell ⟨b, 0, none⟩ (.slice none 0 0)).heap.size = w.heap.size := by simp [World.setCell]
  have hlt2 : b < (w.setCell ⟨b, 0, none⟩ (.slice none 0 0)).heap.size := by rw [hsz]; exact hlt
  rw [ptr_world hlt2]
  have ho := World.ownsRow_made (base := lo) (e := 5) (size := 1) (w.setCell ⟨b, 0, none⟩ (.slice none 0 0)) #[] 0 (by rw [hsz]; exact hlo) (by unfold maxLen; omega) rfl
  rw [hsz] at ho
  have far : ∀ {q : Nat} {t : TypeId} {cs : Array Value}, Blk w q t cs → lo ≤ q → Blk (((w.setCell ⟨b, 0, none⟩ (.slice none 0 0)).alloc (.cells #[] 5)).setCell ⟨b, 0, none⟩ (.slice (some ⟨w.heap.size, 0, none⟩) 0 0)) q t cs := fun hq hl =>
    ((hq.far (p := ⟨b, 0, none⟩) (by show _ ≠ b; omega) _).alloc _).far (p := ⟨b, 0, none⟩) (by show _ ≠ b; omega) _
  refine LRep.drew ⟨(((h.blk.set_ 0 _).alloc _).set_ 0 _), hb, own_far ho _ fun e => by have := own_base ho b e; omega, ⟨fun e => (by cases e), fun e => (by cases e)⟩, ?_, ?_, h.ok⟩
  · rcases h.nm with k | ⟨q, k1, k2, k3, k4⟩
    · exact .inl k
    · exact .inr ⟨q, k1, k2, k3, far k4 k2⟩
  · rcases h.sz with k | ⟨q, k1, k2, k3, k4⟩
    · exact .inl k
    · exact .inr ⟨q, k1, k2, k3, far k4 k2⟩
theorem LRep.setName (h : LRep w b lo st vh vn vs) {q : Nat} {s : ByteArray} (hq : Blk w q 9 #[.string s]) (hl : lo ≤ q) :
    LRep (w.setCell ⟨b, 1, none⟩ (.pointer (some ⟨q, 0, none⟩))) b lo { st with hn := true, name := s } vh (.pointer (some ⟨q, 0, none⟩)) vs := by
  have hb := h.blo
  refine ⟨h.blk.set_ 1 _, hb, own_far h.hash _ fun e => by have := own_base h.hash b e; omega, h.hnil, .inr ⟨q, rfl, hl, rfl, hq.far (by show q ≠ b; omega) _⟩, ?_, h.ok⟩
  rcases h.sz with k | ⟨q, k1, k2, k3, k4⟩
  · exact .inl k
  · exact .inr ⟨q, k1, k2, k3, k4.far (by show q ≠ b; omega) _⟩
theorem LRep.setSize (h : LRep w b lo st vh vn vs) {q x : Nat} (hq : Blk w q 24 #[.int .u64 (x : Int)]) (hl : lo ≤ q) (hx : x < 18446744073709551616) :
    LRep (w.setCell ⟨b, 2, none⟩ (.pointer (some ⟨q, 0, none⟩))) b lo { st with hs := true, size := x } vh vn (.pointer (some ⟨q, 0, none⟩)) := by
  have hb := h.blo
  refine ⟨h.blk.set_ 2 _, hb, own_far h.hash _ fun e => by have := own_base h.hash b e; omega, h.hnil, ?_, .inr ⟨q, rfl, hl, rfl, hq.far (by show q ≠ b; omega) _⟩, hx⟩
  rcases h.nm with k | ⟨q, k1, k2, k3, k4⟩
  · exact .inl k
  · exact .inr ⟨q, k1, k2, k3, k4.far (by show q ≠ b; omega) _⟩
end
/-- What Unmarshal of a link leaves: an error just where the plain law finds none; else the struct tells it. Besides what is new the struct's block alone has turned. -/
def UlIs (b : Nat) (R : Option PLk) (w : World) (e : Ending) (w' : World) : Prop :=
  w.grownBy w' (some b) ∧ ((R = none ∧ ∃ a, e = .returned (.iface 78 (.pointer (some a)))) ∨ ∃ st vh vn vs, R = some st ∧ e = .returned .nilIface ∧ LRep w' b w.heap.size st vh vn vs)
theorem UlIs.err {b : Nat} {R : Option PLk} {w w' : World} {a : Addr} (h : w.grownBy w' (some b)) (hR : R = none) : UlIs b R w (.returned (.iface 78 (.pointer (some a)))) w' := ⟨h, .inl ⟨hR, a, rfl⟩⟩
/-- A link that has been read: its struct at q, all else in the blocks from lo on, below hi. -/
structure LIn (w : World) (lo hi q : Nat) (st : PLk) : Prop where
  ex : ∃ vh vn vs, LRep w q lo st vh vn vs ∧ (∀ k, vh.ownBlock = some k → k < hi) ∧ (∀ k, vn = .pointer (some ⟨k, 0, none⟩) → k < hi) ∧ (∀ k, vs = .pointer (some ⟨k, 0, none⟩) → k < hi)
theorem LRep.in_ {w : World} {b lo : Nat} {st : PLk} {vh vn vs : Value} (h : LRep w b lo st vh vn vs) : LIn w lo w.heap.size b st := by
  refine ⟨vh, vn, vs, h, fun k e => (h.hash.lt k e).2, fun k e => ?_, fun k e => ?_⟩
  · rcases h.nm with ⟨k1, -⟩ | ⟨q, k1, k2, k3, k4⟩
    · rw [k1] at e; cases e
    · rw [k1] at e
      injection e with e
      injection e with e
      injection e with e
      subst e
      exact k4.lt
  · rcases h.sz with ⟨k1, -⟩ | ⟨q, k1, k2, k3, k4⟩
    · rw [k1] at e; cases e
    · rw [k1] at e
      injection e with e
      injection e with e
      injection e with e
      subst e
      exact k4.lt
theorem LIn.grown {w w' : World} {lo hi q : Nat} {st : PLk} {row : Option Nat} (h : LIn w lo hi q st) (hg : w.grownBy w' row) (hq : row ≠ some q) (hr : ∀ k, row = some k → k < lo ∨ hi ≤ k) : LIn w' lo hi q st := by
  obtain ⟨vh, vn, vs, h, b1, b2, b3⟩ := h.ex
  refine ⟨vh, vn, vs, ⟨h.blk.grown hg (Ne.symm hq), h.blo, h.hash.kept hg ?_, h.hnil, ?_, ?_, h.ok⟩, b1, b2, b3⟩
  · cases hv : vh.ownBlock with
    | none => exact .inl rfl
    | some k =>
      refine .inr fun e => ?_
      have h1 := own_base h.hash k hv
      have h2 := b1 k hv
      rcases hr k e.symm with h3 | h3 <;> omega
  · rcases h.nm with k | ⟨q, k1, k2, k3, k4⟩
    · exact .inl k
    · refine .inr ⟨q, k1, k2, k3, k4.grown hg fun e => ?_⟩
      have h2 := b2 q k1
      rcases hr q e.symm with h3 | h3 <;> omega
  · rcases h.sz with k | ⟨q, k1, k2, k3, k4⟩
    · exact .inl k
    · refine .inr ⟨q, k1, k2, k3, k4.grown hg fun e => ?_⟩
      have h2 := b3 q k1
      rcases hr q e.symm with h3 | h3 <;> omega
end Go.Proofs.YthgbhaackihbjaaDoor
