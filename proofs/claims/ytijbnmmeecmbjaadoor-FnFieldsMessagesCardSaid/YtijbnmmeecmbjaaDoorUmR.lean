/- A message Data of UnixFS in memory: the struct, and what it points to. -/
import Derived.Test.YtijbnmmeecmbjaaDoorPbTk
namespace Go.Proofs.YtijbnmmeecmbjaaDoor
open Go.RowKit

def u64s (l : List Nat) : List Value := l.map fun (n : Nat) => .int .u64 (n : Int)
theorem u64s_length (l : List Nat) : (u64s l).length = l.length := by simp [u64s]
theorem u64s_append (a b : List Nat) : u64s (a ++ b) = u64s a ++ u64s b := by simp [u64s]
/-- A pointer to a number of its own, or nil for 0. -/
def PtN (w : World) (b : Nat) (vb v : Value) (x : Nat) : Prop :=
  (v = .pointer none ∧ x = 0) ∨ ∃ q, v = .pointer (some ⟨q, 0, none⟩) ∧ b < q ∧ Blk w q 25 #[.int .u64 (x : Int)] ∧ vb.ownBlock ≠ some q
def PtT (w : World) (b : Nat) (v : Value) (x : Option Int) : Prop :=
  (v = .pointer none ∧ x = none) ∨ ∃ q t, v = .pointer (some ⟨q, 0, none⟩) ∧ x = some t ∧ b < q ∧ Blk w q 75 #[.int .i32 t]
/-- The struct at block b (of the type T) tells st; block hf holds the mark of the wanted field. -/
structure DRep (w : World) (T : TypeId) (b hf hv : Nat) (st : FSt) (vt vd vz vb vh vf : Value) : Prop where
  blk : Blk w b T #[vt, vd, vz, vb, vh, vf, .slice none 0 0, .int .i32 0]
  has : Blk w hf 85 #[.int .u64 (hv : Int)]
  bhf : b < hf
  ty : PtT w b vt st.ty
  data : w.ownsRow (b + 1) 5 1 vd st.data.length (u8s st.data)
  fsize : PtN w b vb vz st.fsize
  sizes : w.ownsRow (b + 1) 25 1 vb st.sizes.length (u64s st.sizes)
  hash : PtN w b vb vh st.hash
  fan : PtN w b vb vf st.fan
/-- The types that the struct may lie under. -/
def TyOk (T : TypeId) : Prop := T = 72 ∨ T = 80
theorem TyOk.ne {T : TypeId} (h : TyOk T) : 5 ≠ T ∧ 25 ≠ T ∧ 85 ≠ T ∧ 75 ≠ T := by
  rcases h with rfl | rfl <;> decide
theorem own_own_ne {w : World} {base base' size size' n n' : Nat} {e e' : TypeId} {v v' : Value} {xs xs' : List Value} (h : w.ownsRow base e size v n xs) (h' : w.ownsRow base' e' size' v' n' xs') (hne : e ≠ e') : v.ownBlock = none ∨ v.ownBlock ≠ v'.ownBlock := by
  rcases h.2 with ⟨rfl, _⟩ | ⟨g, cap, cur, rfl, _, hh, _⟩
  · exact .inl rfl
  · refine .inr fun hv => ?_
    rcases h'.2 with ⟨rfl, _⟩ | ⟨g', cap', cur', rfl, _, hh', _⟩
    · simp [Value.ownBlock] at hv
    · have : g = g' := by simpa [Value.ownBlock] using hv
      subst this
      rw [hh] at hh'
      injection hh' with hh'
      injection hh' with _ ht
      exact hne ht
section
variable {w w' : World} {T : TypeId} {b hf hv : Nat} {st : FSt} {vt vd vz vb vh vf v : Value} {x : Nat}
theorem PtN.alloc (h : PtN w b vb v x) (o : Obj) : PtN (w.alloc o) b vb v x := by
  rcases h with h | ⟨q, h1, h2, h3, h4⟩
  · exact .inl h
  · exact .inr ⟨q, h1, h2, h3.alloc o, h4⟩
theorem PtT.alloc {x : Option Int} (h : PtT w b v x) (o : Obj) : PtT (w.alloc o) b v x := by
  rcases h with h | ⟨q, t, h1, h2, h3, h4⟩
  · exact .inl h
  · exact .inr ⟨q, t, h1, h2, h3, h4.alloc o⟩
theorem DRep.alloc (h : DRep w T b hf hv st vt vd vz vb vh vf) (o : Obj) : DRep (w.alloc o) T b hf hv st vt vd vz vb vh vf :=
  ⟨h.blk.alloc o, h.has.alloc o, h.bhf, h.ty.alloc o, h.data.alloc o, h.fsize.alloc o, h.sizes.alloc o, h.hash.alloc o, h.fan.alloc o⟩
theorem PtN.drew (h : PtN w b vb v x) : PtN w.drew b vb v x := h
theorem DRep.drew (h : DRep w T b hf hv st vt vd vz vb vh vf) : DRep w.drew T b hf hv st vt vd vz vb vh vf :=
  ⟨h.blk, h.has, h.bhf, h.ty, h.data, h.fsize, h.sizes, h.hash, h.fan⟩
/-- Another block of the call's is turned. -/
theorem PtN.far (h : PtN w b vb v x) {p : Addr} (u : Value) (hp : ∀ q, Blk w q 25 #[.int .u64 (x : Int)] → b < q → q ≠ p.block) : PtN (w.setCell p u) b vb v x := by
  rcases h with h | ⟨q, h1, h2, h3, h4⟩
  · exact .inl h
  · exact .inr ⟨q, h1, h2, h3.far (hp q h3 h2) u, h4⟩
theorem PtT.far {x : Option Int} (h : PtT w b v x) {p : Addr} (u : Value) (hp : ∀ q t, Blk w q 75 #[.int .i32 t] → b < q → q ≠ p.block) : PtT (w.setCell p u) b v x := by
  rcases h with h | ⟨q, t, h1, h2, h3, h4⟩
  · exact .inl h
  · exact .inr ⟨q, t, h1, h2, h3, h4.far (hp q t h4 h3) u⟩
theorem own_far {base size n : Nat} {e : TypeId} {xs : List Value} (h : w.ownsRow base e size v n xs) {p : Addr} (u : Value) (hp : v.ownBlock ≠ some p.block) : (w.setCell p u).ownsRow base e size v n xs :=
  h.kept (row := some p.block) (⟨rfl, rfl, rfl, by simp [World.setCell], fun i hi hne => Below.heap_setCell w p u i (fun e => hne (by rw [e]))⟩ : w.grownBy (w.setCell p u) (some p.block)) (.inr hp)
/-- The mark is written. -/
theorem DRep.mark (h : DRep w T b hf hv st vt vd vz vb vh vf) (k : Nat) : DRep (w.setCell ⟨hf, 0, none⟩ (.int .u64 (k : Int))) T b hf k st vt vd vz vb vh vf := by
  have hb := h.bhf
  refine ⟨h.blk.far (by show b ≠ hf; omega) _, h.has.set_ 0 _, hb, ?_, ?_, ?_, ?_, ?_, ?_⟩
  · exact h.ty.far _ fun q t hq _ => hq.ne_ h.has (by decide)
  · exact own_far h.data _ (own_blk_ne h.data h.has (by decide))
  · exact h.fsize.far _ fun q hq _ => hq.ne_ h.has (by decide)
  · exact own_far h.sizes _ (own_blk_ne h.sizes h.has (by decide))
  · exact h.hash.far _ fun q hq _ => hq.ne_ h.has (by decide)
  · exact h.fan.far _ fun q hq _ => hq.ne_ h.has (by decide)
/-- All but the struct itself stays where one of the struct's cells is written. -/
theorem DRep.cellSet (h : DRep w T b hf hv st vt vd vz vb vh vf) (i : Nat) (u : Value) : let W := w.setCell ⟨b, i, none⟩ u
    Blk W b T (#[vt, vd, vz, vb, vh, vf, .slice none 0 0, .int .i32 0].setIfInBounds i u) ∧ Blk W hf 85 #[.int .u64 (hv : Int)] ∧ PtT W b vt st.ty ∧ W.ownsRow (b + 1) 5 1 vd st.data.length (u8s st.data) ∧ PtN W b vb vz st.fsize ∧ W.ownsRow (b + 1) 25 1 vb st.sizes.length (u64s st.sizes) ∧ PtN W b vb vh st.hash ∧ PtN W b vb vf st.fan := by
  have hb := h.bhf
  refine ⟨h.blk.set_ i u, h.has.far (by show hf ≠ b; omega) _, ?_, ?_, ?_, ?_, ?_, ?_⟩
  · exact h.ty.far _ fun q t _ hq => by show q ≠ b; omega
  · exact own_far h.data _ fun e => by have := own_base h.data b e; omega
  · exact h.fsize.far _ fun q _ hq => by show q ≠ b; omega
  · exact own_far h.sizes _ fun e => by have := own_base h.sizes b e; omega
  · exact h.hash.far _ fun q _ hq => by show q ≠ b; omega
  · exact h.fan.far _ fun q _ hq => by show q ≠ b; omega
theorem blk_far_b {q b i : Nat} {t : TypeId} {cs : Array Value} (h : Blk w q t cs) (hq : b < q) (u : Value) : Blk (w.setCell ⟨b, i, none⟩ u) q t cs := h.far (by show q ≠ b; omega) u
theorem DRep.setTy (h : DRep w T b hf hv st vt vd vz vb vh vf) {q : Nat} {t : Int} (hq : Blk w q 75 #[.int .i32 t]) (hbq : b < q) :
    DRep (w.setCell ⟨b, 0, none⟩ (.pointer (some ⟨q, 0, none⟩))) T b hf hv { st with ty := some t } (.pointer (some ⟨q, 0, none⟩)) vd vz vb vh vf := by
  obtain ⟨h1, h2, h3, h4, h5, h6, h7, h8⟩ := h.cellSet 0 (.pointer (some ⟨q, 0, none⟩))
  exact ⟨h1, h2, h.bhf, .inr ⟨q, t, rfl, rfl, hbq, blk_far_b hq hbq _⟩, h4, h5, h6, h7, h8⟩
theorem DRep.setFsize (h : DRep w T b hf hv st vt vd vz vb vh vf) {q x : Nat} (hq : Blk w q 25 #[.int .u64 (x : Int)]) (hbq : b < q) (hne : vb.ownBlock ≠ some q) :
    DRep (w.setCell ⟨b, 2, none⟩ (.pointer (some ⟨q, 0, none⟩))) T b hf hv { st with fsize := x } vt vd (.pointer (some ⟨q, 0, none⟩)) vb vh vf := by
  obtain ⟨h1, h2, h3, h4, h5, h6, h7, h8⟩ := h.cellSet 2 (.pointer (some ⟨q, 0, none⟩))
  exact ⟨h1, h2, h.bhf, h3, h4, .inr ⟨q, rfl, hbq, blk_far_b hq hbq _, hne⟩, h6, h7, h8⟩
theorem DRep.setHash (h : DRep w T b hf hv st vt vd vz vb vh vf) {q x : Nat} (hq : Blk w q 25 #[.int .u64 (x : Int)]) (hbq : b < q) (hne : vb.ownBlock ≠ some q) :
    DRep (w.setCell ⟨b, 4, none⟩ (.pointer (some ⟨q, 0, none⟩))) T b hf hv { st with hash := x } vt vd vz vb (.pointer (some ⟨q, 0, none⟩)) vf := by
  obtain ⟨h1, h2, h3, h4, h5, h6, h7, h8⟩ := h.cellSet 4 (.pointer (some ⟨q, 0, none⟩))
  exact ⟨h1, h2, h.bhf, h3, h4, h5, h6, .inr ⟨q, rfl, hbq, blk_far_b hq hbq _, hne⟩, h8⟩
theorem DRep.setFan (h : DRep w T b hf hv st vt vd vz vb vh vf) {q x : Nat} (hq : Blk w q 25 #[.int .u64 (x : Int)]) (hbq : b < q) (hne : vb.ownBlock ≠ some q) :
    DRep (w.setCell ⟨b, 5, none⟩ (.pointer (some ⟨q, 0, none⟩))) T b hf hv { st with fan := x } vt vd vz vb vh (.pointer (some ⟨q, 0, none⟩)) := by
  obtain ⟨h1, h2, h3, h4, h5, h6, h7, h8⟩ := h.cellSet 5 (.pointer (some ⟨q, 0, none⟩))
  exact ⟨h1, h2, h.bhf, h3, h4, h5, h6, h7, .inr ⟨q, rfl, hbq, blk_far_b hq hbq _, hne⟩⟩
/-- The data's row is grown, and laid in the struct. -/
theorem DRep.setData (h : DRep w T b hf hv st vt vd vz vb vh vf) (hT : TyOk T) {d : List UInt8} {vd' : Value} {n : Nat} (hown : w'.ownsRow (b + 1) 5 1 vd' n (u8s d)) (hn : n = d.length) (hg : w.grownBy w' vd.ownBlock) :
    DRep (w'.setCell ⟨b, 1, none⟩ vd') T b hf hv { st with data := d } vt vd' vz vb vh vf := by
  subst hn
  obtain ⟨t1, t2, t3, t4⟩ := hT.ne
  have far : ∀ {q : Nat} {t : TypeId} {cs : Array Value}, Blk w q t cs → 5 ≠ t → Blk w' q t cs := fun hq hne => hq.grown hg fun e => own_blk_ne h.data hq hne e.symm
  have pn : ∀ {v : Value} {x : Nat}, PtN w b vb v x → PtN w' b vb v x := fun hx => by
    rcases hx with hx | ⟨q, h1, h2, h3, h4⟩
    · exact .inl hx
    · exact .inr ⟨q, h1, h2, far h3 (by decide), h4⟩
  have hty : PtT w' b vt st.ty := by
    rcases h.ty with hx | ⟨q, t, h1, h2, h3, h4⟩
    · exact .inl hx
    · exact .inr ⟨q, t, h1, h2, h3, far h4 (by decide)⟩
  have hs : w'.ownsRow (b + 1) 25 1 vb st.sizes.length (u64s st.sizes) := h.sizes.kept hg (own_own_ne h.sizes h.data (by decide))
  have hb := h.bhf
  exact ⟨(far h.blk t1).set_ 1 vd', (far h.has (by decide)).far (by show hf ≠ b; omega) _, hb, hty.far _ fun q t _ hq => by show q ≠ b; omega, own_far hown _ fun e => by have := own_base hown b e; omega, (pn h.fsize).far _ fun q _ hq => by show q ≠ b; omega, own_far hs _ fun e => by have := own_base hs b e; omega, (pn h.hash).far _ fun q _ hq => by show q ≠ b; omega, (pn h.fan).far _ fun q _ hq => by show q ≠ b; omega⟩
/-- The sizes' row is grown, and laid in the struct. -/
theorem DRep.setSizes (h : DRep w T b hf hv st vt vd vz vb vh vf) (hT : TyOk T) {d : List Nat} {vb' : Value} {n : Nat} (hown : w'.ownsRow (b + 1) 25 1 vb' n (u64s d)) (hn : n = d.length) (hg : w.grownBy w' vb.ownBlock) (hat : vb'.ownBlock = vb.ownBlock ∨ ∃ k, vb'.ownBlock = some k ∧ w.heap.size ≤ k) :
    DRep (w'.setCell ⟨b, 3, none⟩ vb') T b hf hv { st with sizes := d } vt vd vz vb' vh vf := by
  subst hn
  obtain ⟨t1, t2, t3, t4⟩ := hT.ne
  have far : ∀ {q : Nat} {t : TypeId} {cs : Array Value}, Blk w q t cs → 25 ≠ t → Blk w' q t cs := fun hq hne => hq.grown hg fun e => own_blk_ne h.sizes hq hne e.symm
  have pn : ∀ {v : Value} {x : Nat}, PtN w b vb v x → PtN w' b vb' v x := fun hx => by
    rcases hx with hx | ⟨q, h1, h2, h3, h4⟩
    · exact .inl hx
    · refine .inr ⟨q, h1, h2, h3.grown hg fun e => h4 e.symm, ?_⟩
      rcases hat with e | ⟨k, e, hk⟩
      · rw [e]; exact h4
      · rw [e]; intro e2
        have := h3.lt
        have : k = q := by simpa using e2
        omega
  have hty : PtT w' b vt st.ty := by
    rcases h.ty with hx | ⟨q, t, h1, h2, h3, h4⟩
    · exact .inl hx
    · exact .inr ⟨q, t, h1, h2, h3, far h4 (by decide)⟩
  have hs : w'.ownsRow (b + 1) 5 1 vd st.data.length (u8s st.data) := h.data.kept hg (own_own_ne h.data h.sizes (by decide))
  have hb := h.bhf
  exact ⟨(far h.blk t2).set_ 3 vb', (far h.has (by decide)).far (by show hf ≠ b; omega) _, hb, hty.far _ fun q t _ hq => by show q ≠ b; omega, own_far hs _ fun e => by have := own_base hs b e; omega, (pn h.fsize).far _ fun q _ hq => by show q ≠ b; omega, own_far hown _ fun e => by have := own_base hown b e; omega, (pn h.hash).far _ fun q _ hq => by show q ≠ b; omega, (pn h.fan).far _ fun q _ hq => by show q ≠ b; omega⟩
end
end Go.Proofs.YtijbnmmeecmbjaaDoor
