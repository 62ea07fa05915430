/- A message in memory: a block of six cells, four rows of records, and what an append onto one of them makes of it. (Written by m4gen.py.) -/
import Derived.Test.YtocdbecakefnnaaDoorFv
namespace Go.Proofs.YtocdbecakefnnaaDoor
open Go.RowKit

/-- The blocks that a record's bytes stay away from. -/
def G4 (G0 : Nat → Prop) (e b p r : Value) : Nat → Prop := fun k => G0 k ∨ e.ownBlock = some k ∨ b.ownBlock = some k ∨ p.ownBlock = some k ∨ r.ownBlock = some k
structure M4 (w W : World) (K B : Nat) (T te tb tp tr : TypeId) (G0 : Nat → Prop) (full pend : Value) (e b p r : Value) (ne nb np nr : Nat) (fe fb fp fr : List FV) (xe xb xp xr : List Value) : Prop where
  oe : W.ownsRow B te 5 e ne xe
  ob : W.ownsRow B tb 1 b nb xb
  op : W.ownsRow B tp 2 p np xp
  or : W.ownsRow B tr 2 r nr xr
  fe : FRow W (G4 G0 e b p r) fe xe
  fb : FRow W (G4 G0 e b p r) fb xb
  fp : FRow W (G4 G0 e b p r) fp xp
  fr : FRow W (G4 G0 e b p r) fr xr
  blk : Blk W K T #[e, full, b, p, r, pend]
  bel : Below w.heap.size w W
  g0 : G0 K
  gb : ∀ k, G0 k → w.heap.size ≤ k ∧ k < B
  hb : w.heap.size ≤ B
  hB : B ≤ W.heap.size
section
variable {w W0 W W' W3 : World} {K B : Nat} {T te tb tp tr : TypeId} {G0 : Nat → Prop} {full pend : Value} {e b p r : Value} {ne nb np nr : Nat} {fe fb fp fr : List FV} {xe xb xp xr : List Value}
theorem M4.grow (h : M4 w W0 K B T te tb tp tr G0 full pend e b p r ne nb np nr fe fb fp fr xe xb xp xr) (hb : Below W0.heap.size W0 W) : M4 w W K B T te tb tp tr G0 full pend e b p r ne nb np nr fe fb fp fr xe xb xp xr :=
  ⟨own_below h.oe hb, own_below h.ob hb, own_below h.op hb, own_below h.or hb, h.fe.below hb, h.fb.below hb, h.fp.below hb, h.fr.below hb, h.blk.below hb h.blk.lt, below_then h.bel h.bel.size hb, h.g0, h.gb, h.hb, Nat.le_trans h.hB hb.size⟩
/-- The row's blocks are the call's own. -/
theorem M4.high (h : M4 w W0 K B T te tb tp tr G0 full pend e b p r ne nb np nr fe fb fp fr xe xb xp xr) (k : Nat) (hk : G4 G0 e b p r k) : w.heap.size ≤ k ∧ k < W0.heap.size := by
  rcases hk with hk | hk | hk | hk | hk
  · exact ⟨(h.gb k hk).1, Nat.lt_of_lt_of_le (h.gb k hk).2 h.hB⟩
  · exact ⟨Nat.le_trans h.hb (own_base h.oe k hk), (h.oe.lt k hk).2⟩
  · exact ⟨Nat.le_trans h.hb (own_base h.ob k hk), (h.ob.lt k hk).2⟩
  · exact ⟨Nat.le_trans h.hb (own_base h.op k hk), (h.op.lt k hk).2⟩
  · exact ⟨Nat.le_trans h.hb (own_base h.or k hk), (h.or.lt k hk).2⟩
theorem M4.appE {e' : Value} {m : Nat} {fs : List FV} {ys : List Value} (h : M4 w W0 K B T te tb tp tr G0 full pend e b p r ne nb np nr fe fb fp fr xe xb xp xr) (hb : Below W0.heap.size W0 W) (hrec : FRow W (G4 G0 e b p r) fs ys) (ho : W3.ownsRow B te 5 e' (ne + m) (xe ++ ys)) (hg : W.grownBy W3 e.ownBlock) (hat : e'.ownBlock = e.ownBlock ∨ e'.ownBlock = some W.heap.size) (db : te ≠ tb) (dp : te ≠ tp) (dr : te ≠ tr) :
    M4 w (W3.setCell ⟨K, 0, none⟩ e') K B T te tb tp tr G0 full pend e' b p r (ne + m) nb np nr (fe ++ fs) fb fp fr (xe ++ ys) xb xp xr := by
  have h1 := h.grow hb
  have hin : ∀ k, e.ownBlock = some k → G4 G0 e b p r k := fun k hk => .inr (.inl hk)
  have hG : ∀ k, G4 G0 e' b p r k → G4 G0 e b p r k ∨ W.heap.size ≤ k := by
    intro k hk
    rcases hk with hk | hk | hk | hk | hk
    · exact .inl (.inl hk)
    · rcases hat with h2 | h2
      · exact .inl (.inr (.inl (h2 ▸ hk)))
      · rw [h2] at hk; injection hk with hk; exact .inr (Nat.le_of_eq hk)
    · exact .inl (.inr (.inr (.inl hk)))
    · exact .inl (.inr (.inr (.inr (.inl hk))))
    · exact .inl (.inr (.inr (.inr (.inr hk))))
  have hKB := (h.gb K h.g0).2
  have hset : W3.grownBy (W3.setCell ⟨K, 0, none⟩ e') (some K) := only_set W3 K 0 e'
  have hKG : ∀ k, some K = some k → G4 G0 e' b p r k := fun k hk => by injection hk with hk; subst hk; exact .inl h.g0
  have hst : ∀ {fs : List FV} {xs : List Value}, FRow W (G4 G0 e b p r) fs xs → FRow (W3.setCell ⟨K, 0, none⟩ e') (G4 G0 e' b p r) fs xs := fun hf => (hf.turn hg hin hG).turn hset hKG (fun k hk => .inl hk)
  have hbw : Below w.heap.size w W3 := h1.bel.grown hg h1.bel.size (fun k hk => Nat.le_trans h.hb (own_base h1.oe k hk))
  exact ⟨ownsRow_setCell_below ho (by show K < _; omega) e', ownsRow_setCell_below (own_beside h1.ob hg (own_apart h1.oe h1.ob db)) (by show K < _; omega) e', ownsRow_setCell_below (own_beside h1.op hg (own_apart h1.oe h1.op dp)) (by show K < _; omega) e', ownsRow_setCell_below (own_beside h1.or hg (own_apart h1.oe h1.or dr)) (by show K < _; omega) e', hst (h1.fe.append hrec), hst h1.fb, hst h1.fp, hst h1.fr, (h1.blk.grown hg (fun e2 => by have := own_base h1.oe K e2.symm; omega)).set_ 0 e', hbw.setCell (h.gb K h.g0).1 e', h.g0, h.gb, h.hb, Nat.le_trans h1.hB (Nat.le_trans hg.size hset.size)⟩
theorem M4.appB {b' : Value} {m : Nat} {fs : List FV} {ys : List Value} (h : M4 w W0 K B T te tb tp tr G0 full pend e b p r ne nb np nr fe fb fp fr xe xb xp xr) (hb : Below W0.heap.size W0 W) (hrec : FRow W (G4 G0 e b p r) fs ys) (ho : W3.ownsRow B tb 1 b' (nb + m) (xb ++ ys)) (hg : W.grownBy W3 b.ownBlock) (hat : b'.ownBlock = b.ownBlock ∨ b'.ownBlock = some W.heap.size) (de : tb ≠ te) (dp : tb ≠ tp) (dr : tb ≠ tr) :
    M4 w (W3.setCell ⟨K, 2, none⟩ b') K B T te tb tp tr G0 full pend e b' p r ne (nb + m) np nr fe (fb ++ fs) fp fr xe (xb ++ ys) xp xr := by
  have h1 := h.grow hb
  have hin : ∀ k, b.ownBlock = some k → G4 G0 e b p r k := fun k hk => .inr (.inr (.inl hk))
  have hG : ∀ k, G4 G0 e b' p r k → G4 G0 e b p r k ∨ W.heap.size ≤ k := by
    intro k hk
    rcases hk with hk | hk | hk | hk | hk
    · exact .inl (.inl hk)
    · exact .inl (.inr (.inl hk))
    · rcases hat with h2 | h2
      · exact .inl (.inr (.inr (.inl (h2 ▸ hk))))
      · rw [h2] at hk; injection hk with hk; exact .inr (Nat.le_of_eq hk)
    · exact .inl (.inr (.inr (.inr (.inl hk))))
    · exact .inl (.inr (.inr (.inr (.inr hk))))
  have hKB := (h.gb K h.g0).2
  have hset : W3.grownBy (W3.setCell ⟨K, 2, none⟩ b') (some K) := only_set W3 K 2 b'
  have hKG : ∀ k, some K = some k → G4 G0 e b' p r k := fun k hk => by injection hk with hk; subst hk; exact .inl h.g0
  have hst : ∀ {fs : List FV} {xs : List Value}, FRow W (G4 G0 e b p r) fs xs → FRow (W3.setCell ⟨K, 2, none⟩ b') (G4 G0 e b' p r) fs xs := fun hf => (hf.turn hg hin hG).turn hset hKG (fun k hk => .inl hk)
  have hbw : Below w.heap.size w W3 := h1.bel.grown hg h1.bel.size (fun k hk => Nat.le_trans h.hb (own_base h1.ob k hk))
  exact ⟨ownsRow_setCell_below (own_beside h1.oe hg (own_apart h1.ob h1.oe de)) (by show K < _; omega) b', ownsRow_setCell_below ho (by show K < _; omega) b', ownsRow_setCell_below (own_beside h1.op hg (own_apart h1.ob h1.op dp)) (by show K < _; omega) b', ownsRow_setCell_below (own_beside h1.or hg (own_apart h1.ob h1.or dr)) (by show K < _; omega) b', hst h1.fe, hst (h1.fb.append hrec), hst h1.fp, hst h1.fr, (h1.blk.grown hg (fun e2 => by have := own_base h1.ob K e2.symm; omega)).set_ 2 b', hbw.setCell (h.gb K h.g0).1 b', h.g0, h.gb, h.hb, Nat.le_trans h1.hB (Nat.le_trans hg.size hset.size)⟩
theorem M4.appP {p' : Value} {m : Nat} {fs : List FV} {ys : List Value} (h : M4 w W0 K B T te tb tp tr G0 full pend e b p r ne nb np nr fe fb fp fr xe xb xp xr) (hb : Below W0.heap.size W0 W) (hrec : FRow W (G4 G0 e b p r) fs ys) (ho : W3.ownsRow B tp 2 p' (np + m) (xp ++ ys)) (hg : W.grownBy W3 p.ownBlock) (hat : p'.ownBlock = p.ownBlock ∨ p'.ownBlock = some W.heap.size) (de : tp ≠ te) (db : tp ≠ tb) (dr : tp ≠ tr) :
    M4 w (W3.setCell ⟨K, 3, none⟩ p') K B T te tb tp tr G0 full pend e b p' r ne nb (np + m) nr fe fb (fp ++ fs) fr xe xb (xp ++ ys) xr := by
  have h1 := h.grow hb
  have hin : ∀ k, p.ownBlock = some k → G4 G0 e b p r k := fun k hk => .inr (.inr (.inr (.inl hk)))
  have hG : ∀ k, G4 G0 e b p' r k → G4 G0 e b p r k ∨ W.heap.size ≤ k := by
    intro k hk
    rcases hk with hk | hk | hk | hk | hk
    · exact .inl (.inl hk)
    · exact .inl (.inr (.inl hk))
    · exact .inl (.inr (.inr (.inl hk)))
    · rcases hat with h2 | h2
      · exact .inl (.inr (.inr (.inr (.inl (h2 ▸ hk)))))
      · rw [h2] at hk; injection hk with hk; exact .inr (Nat.le_of_eq hk)
    · exact .inl (.inr (.inr (.inr (.inr hk))))
  have hKB := (h.gb K h.g0).2
  have hset : W3.grownBy (W3.setCell ⟨K, 3, none⟩ p') (some K) := only_set W3 K 3 p'
  have hKG : ∀ k, some K = some k → G4 G0 e b p' r k := fun k hk => by injection hk with hk; subst hk; exact .inl h.g0
  have hst : ∀ {fs : List FV} {xs : List Value}, FRow W (G4 G0 e b p r) fs xs → FRow (W3.setCell ⟨K, 3, none⟩ p') (G4 G0 e b p' r) fs xs := fun hf => (hf.turn hg hin hG).turn hset hKG (fun k hk => .inl hk)
  have hbw : Below w.heap.size w W3 := h1.bel.grown hg h1.bel.size (fun k hk => Nat.le_trans h.hb (own_base h1.op k hk))
  exact ⟨ownsRow_setCell_below (own_beside h1.oe hg (own_apart h1.op h1.oe de)) (by show K < _; omega) p', ownsRow_setCell_below (own_beside h1.ob hg (own_apart h1.op h1.ob db)) (by show K < _; omega) p', ownsRow_setCell_below ho (by show K < _; omega) p', ownsRow_setCell_below (own_beside h1.or hg (own_apart h1.op h1.or dr)) (by show K < _; omega) p', hst h1.fe, hst h1.fb, hst (h1.fp.append hrec), hst h1.fr, (h1.blk.grown hg (fun e2 => by have := own_base h1.op K e2.symm; omega)).set_ 3 p', hbw.setCell (h.gb K h.g0).1 p', h.g0, h.gb, h.hb, Nat.le_trans h1.hB (Nat.le_trans hg.size hset.size)⟩
theorem M4.appR {r' : Value} {m : Nat} {fs : List FV} {ys : List Value} (h : M4 w W0 K B T te tb tp tr G0 full pend e b p r ne nb np nr fe fb fp fr xe xb xp xr) (hb : Below W0.heap.size W0 W) (hrec : FRow W (G4 G0 e b p r) fs ys) (ho : W3.ownsRow B tr 2 r' (nr + m) (xr ++ ys)) (hg : W.grownBy W3 r.ownBlock) (hat : r'.ownBlock = r.ownBlock ∨ r'.ownBlock = some W.heap.size) (de : tr ≠ te) (db : tr ≠ tb) (dp : tr ≠ tp) :
    M4 w (W3.setCell ⟨K, 4, none⟩ r') K B T te tb tp tr G0 full pend e b p r' ne nb np (nr + m) fe fb fp (fr ++ fs) xe xb xp (xr ++ ys) := by
  have h1 := h.grow hb
  have hin : ∀ k, r.ownBlock = some k → G4 G0 e b p r k := fun k hk => .inr (.inr (.inr (.inr hk)))
  have hG : ∀ k, G4 G0 e b p r' k → G4 G0 e b p r k ∨ W.heap.size ≤ k := by
    intro k hk
    rcases hk with hk | hk | hk | hk | hk
    · exact .inl (.inl hk)
    · exact .inl (.inr (.inl hk))
    · exact .inl (.inr (.inr (.inl hk)))
    · exact .inl (.inr (.inr (.inr (.inl hk))))
    · rcases hat with h2 | h2
      · exact .inl (.inr (.inr (.inr (.inr (h2 ▸ hk)))))
      · rw [h2] at hk; injection hk with hk; exact .inr (Nat.le_of_eq hk)
  have hKB := (h.gb K h.g0).2
  have hset : W3.grownBy (W3.setCell ⟨K, 4, none⟩ r') (some K) := only_set W3 K 4 r'
  have hKG : ∀ k, some K = some k → G4 G0 e b p r' k := fun k hk => by injection hk with hk; subst hk; exact .inl h.g0
  have hst : ∀ {fs : List FV} {xs : List Value}, FRow W (G4 G0 e b p r) fs xs → FRow (W3.setCell ⟨K, 4, none⟩ r') (G4 G0 e b p r') fs xs := fun hf => (hf.turn hg hin hG).turn hset hKG (fun k hk => .inl hk)
  have hbw : Below w.heap.size w W3 := h1.bel.grown hg h1.bel.size (fun k hk => Nat.le_trans h.hb (own_base h1.or k hk))
  exact ⟨ownsRow_setCell_below (own_beside h1.oe hg (own_apart h1.or h1.oe de)) (by show K < _; omega) r', ownsRow_setCell_below (own_beside h1.ob hg (own_apart h1.or h1.ob db)) (by show K < _; omega) r', ownsRow_setCell_below (own_beside h1.op hg (own_apart h1.or h1.op dp)) (by show K < _; omega) r', ownsRow_setCell_below ho (by show K < _; omega) r', hst h1.fe, hst h1.fb, hst h1.fp, hst (h1.fr.append hrec), (h1.blk.grown hg (fun e2 => by have := own_base h1.or K e2.symm; omega)).set_ 4 r', hbw.setCell (h.gb K h.g0).1 r', h.g0, h.gb, h.hb, Nat.le_trans h1.hB (Nat.le_trans hg.size hset.size)⟩
end
end Go.Proofs.YtocdbecakefnnaaDoor
