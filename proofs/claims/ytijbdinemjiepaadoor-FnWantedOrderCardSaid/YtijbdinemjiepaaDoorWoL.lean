/- The methods of a want list. -/
import Derived.Deep.RegionHeld3
import Derived.Test.YtijbdinemjiepaaDoorWoM
namespace Go.Proofs.YtijbdinemjiepaaDoor
open Go.RowKit

/-- All but some blocks is as it was. -/
structure Turn (X : Nat → Prop) (w w' : World) : Prop where
  os : w'.os = w.os
  tape : w'.tape = w.tape
  output : w'.output = w.output
  size : w.heap.size ≤ w'.heap.size
  block : ∀ i, i < w.heap.size → ¬ X i → w'.heap[i]? = w.heap[i]?
section
variable {X Y : Nat → Prop} {w w1 w2 : World}
theorem Turn.refl (X : Nat → Prop) (w : World) : Turn X w w := ⟨rfl, rfl, rfl, Nat.le_refl _, fun _ _ _ => rfl⟩
theorem Turn.trans (h : Turn X w w1) (k : Turn X w1 w2) : Turn X w w2 :=
  ⟨k.os.trans h.os, k.tape.trans h.tape, k.output.trans h.output, Nat.le_trans h.size k.size, fun i hi hx => (k.block i (Nat.lt_of_lt_of_le hi h.size) hx).trans (h.block i hi hx)⟩
theorem Turn.of_below (h : Below w.heap.size w w1) (X : Nat → Prop) : Turn X w w1 := ⟨h.os, h.tape, h.output, h.size, fun i hi _ => h.block i hi⟩
theorem Turn.of_grown {r : Option Nat} (h : w.grownBy w1 r) (hr : ∀ k, r = some k → X k) : Turn X w w1 :=
  ⟨h.os, h.tape, h.output, h.size, fun i hi hx => h.block i hi (fun e => hx (hr i e.symm))⟩
theorem Turn.mono (h : Turn X w w1) (hX : ∀ i, X i → Y i) : Turn Y w w1 := ⟨h.os, h.tape, h.output, h.size, fun i hi hx => h.block i hi (fun e => hx (hX i e))⟩
theorem Turn.below {B : Nat} (h : Turn X w w1) (hB : B ≤ w.heap.size) (hX : ∀ i, X i → B ≤ i) : Below B w w1 := ⟨h.os, h.tape, h.output, h.size, fun i hi => h.block i (by omega) (fun e => by have := hX i e; omega)⟩
theorem Turn.then_below (h : Turn X w w1) (k : Below w1.heap.size w1 w2) : Turn X w w2 := h.trans (Turn.of_below k X)
theorem Turn.blk {g : Nat} {t : TypeId} {cs : Array Value} (h : Turn X w w1) (hb : Blk w g t cs) (hx : ¬ X g) : Blk w1 g t cs := (h.block g hb.lt hx).trans hb
theorem Turn.cell {g i : Nat} {v : Value} (h : Turn X w w1) (hc : w.cell? ⟨g, i, none⟩ = some v) (hx : ¬ X g) : w1.cell? ⟨g, i, none⟩ = some v :=
  (World.cell?_of_block (h.block g (World.block_lt_of_cell? w _ hc) hx)).trans hc
theorem Turn.own {base n size : Nat} {e : TypeId} {v : Value} {xs : List Value} (h : Turn X w w1) (ho : w.ownsRow base e size v n xs) (hx : ∀ g, v.ownBlock = some g → ¬ X g) : w1.ownsRow base e size v n xs := by
  refine ⟨ho.1, ?_⟩
  rcases ho.2 with h' | ⟨g, cap, cur, rfl, hg, hh, rest⟩
  · exact .inl h'
  · exact .inr ⟨g, cap, cur, rfl, hg, (h.block g (Array.getElem?_eq_some_iff.1 hh).1 (hx g rfl)).trans hh, rest⟩
end
/-- A want list. -/
structure WS (W : World) (s m n : Nat) (f : WMap) (c : Nat) : Prop where
  sb : Blk W s 139 #[.map (some m), .slice none 0 0]
  mp : WM W m n f c
def SM (s m : Nat) : Nat → Prop := fun k => k = s ∨ k = m
/-- What a method leaves. -/
structure After (W : World) (s m n : Nat) (f : WMap) (c : Nat) (v : Value) (r : Ending) (W' : World) : Prop where
  ret : r = .returned v
  ws : WS W' s m n f c
  turn : Turn (SM s m) W W'
def incC (f : WMap) (x : List UInt8) (c : Nat) : Nat := if (f x).isSome then c else c + 1
def decC (f : WMap) (x : List UInt8) (c : Nat) : Nat := if (f x).isSome then c - 1 else c
section
variable {W W' : World} {s m n c : Nat} {f : WMap}
theorem WS.ne (h : WS W s m n f c) : s ≠ m := by
  rintro rfl
  obtain ⟨D, ⟨es, clock, hb, _⟩, _⟩ := h.mp.ex
  have := h.sb
  unfold Blk at this
  rw [hb] at this
  cases this
theorem WS.below (h : WS W s m n f c) (hb : Below W.heap.size W W') : WS W' s m n f c := ⟨bkeep hb h.sb, h.mp.of_heap (hb.block m h.mp.lt)⟩
theorem WS.keep (h : WS W s m n f c) {X : Nat → Prop} (ht : Turn X W W') (h1 : ¬ X s) (h2 : ¬ X m) : WS W' s m n f c := ⟨ht.blk h.sb h1, h.mp.of_heap (ht.block m h.mp.lt h2)⟩
theorem WS.drew (h : WS W s m n f c) : WS W.drew s m n f c := ⟨h.sb.drew, h.mp.of_heap rfl⟩
end
theorem new_any (w : World) : Calls Tryd.prog 43 #[] w fun e w' => e = .returned (.pointer (some ⟨w.heap.size + 1, 0, none⟩)) ∧ WS w' (w.heap.size + 1) w.heap.size 0 (fun _ => none) 0 ∧ Below w.heap.size w w' := by
  have hmm := @run_makeMap Tryd.prog
  have HM := Lib.hid (WM.made w)
  have HS := Lib.hid (Blk.new (w.alloc (.map #[] 0)) 139 #[.map (some w.heap.size), .slice none 0 0])
  go_enter Tryd.func43, Tryd.ntmps43
  go_wp2
  go_ret
  refine ⟨rfl, ⟨?_, ?_⟩, below_alloc (below_one w _) _⟩
  · have h := HS.out
    rw [World.size_alloc] at h
    exact h
  · exact HM.out.of_heap (by have := HM.out.lt; simp at this; exact Below.heap_alloc _ _ _ (by simp))
/-- The world ahead of the map's update in 'put'. -/
def putW (W : World) (s : Nat) (x : List UInt8) (p : Int) (v : Bool) : World := ((W.setCell ⟨s, 1, none⟩ (.slice none 0 0)).alloc (.cells #[.string ⟨x.toArray⟩] 72)).alloc (.cells #[.string ⟨x.toArray⟩, .int .i32 p, .int .i32 (wty v)] 112)
theorem WS.nil {W : World} {s m n c : Nat} {f : WMap} (h : WS W s m n f c) : WS (W.setCell ⟨s, 1, none⟩ (.slice none 0 0)) s m n f c := by
  refine ⟨h.sb.set_ 1 _, h.mp.of_heap ?_⟩
  have hg := only_set W s 1 (.slice none 0 0)
  exact hg.block m h.mp.lt (fun e => by injection e with e; exact h.ne e.symm)
theorem turn_nil {W : World} {s m : Nat} : Turn (SM s m) W (W.setCell ⟨s, 1, none⟩ (.slice none 0 0)) := Turn.of_grown (only_set W s 1 _) (fun k hk => by injection hk with hk; exact .inl hk.symm)
set_option maxRecDepth 100000 in
set_option maxHeartbeats 4000000 in
theorem put_any (s m n c : Nat) (f : WMap) (x : List UInt8) (p : Int) (v : Bool) (W : World) (h : WS W s m n f c) (hl : x.length ≤ 1000) (hn : n ≤ 1000) :
    Calls Tryd.prog 63 #[.pointer (some ⟨s, 0, none⟩), .agg #[.string ⟨x.toArray⟩], .agg #[.string ⟨x.toArray⟩, .int .i32 p, .int .i32 (wty v)]] W (After W s m (n + 1) (putF f x (p, v)) (incC f x c) (.tuple #[])) := by
  have hs := h.sb.lt
  have hm := h.mp.lt
  have hne := h.ne
  have s1 : W.cell? ⟨s, 1, none⟩ = some (.slice none 0 0) := h.sb.cell 1
  have sf := h.sb.frozen 1
  have hb1 := below_one (W.setCell ⟨s, 1, none⟩ (.slice none 0 0)) (.cells #[.string ⟨x.toArray⟩] 72)
  have hb2 := below_alloc hb1 (.cells #[.string ⟨x.toArray⟩, .int .i32 p, .int .i32 (wty v)] 112)
  have hws := (h.nil.below hb2).drew
  obtain ⟨W', hrun, hm', hg⟩ := hws.mp.put x hl p v hn
  have hk : Blk (((W.setCell ⟨s, 1, none⟩ (.slice none 0 0)).alloc (.cells #[.string ⟨x.toArray⟩] 72)).alloc (.cells #[.string ⟨x.toArray⟩, .int .i32 p, .int .i32 (wty v)] 112)) W.heap.size 72 #[.string ⟨x.toArray⟩] := by
    have h1 := (Blk.new (W.setCell ⟨s, 1, none⟩ (.slice none 0 0)) 72 #[.string ⟨x.toArray⟩]).alloc (.cells #[.string ⟨x.toArray⟩, .int .i32 p, .int .i32 (wty v)] 112)
    rw [World.size_setCell] at h1
    exact h1
  have he : Blk (((W.setCell ⟨s, 1, none⟩ (.slice none 0 0)).alloc (.cells #[.string ⟨x.toArray⟩] 72)).alloc (.cells #[.string ⟨x.toArray⟩, .int .i32 p, .int .i32 (wty v)] 112)) (W.heap.size + 1) 112 #[.string ⟨x.toArray⟩, .int .i32 p, .int .i32 (wty v)] := by
    have h1 := Blk.new ((W.setCell ⟨s, 1, none⟩ (.slice none 0 0)).alloc (.cells #[.string ⟨x.toArray⟩] 72)) 112 #[.string ⟨x.toArray⟩, .int .i32 p, .int .i32 (wty v)]
    rw [World.size_alloc, World.size_setCell] at h1
    exact h1
  have hsb' : Blk W' s 139 #[.map (some m), .slice none 0 0] := hws.sb.grown hg (fun e => hne (by injection e))
  have hk' : Blk W' W.heap.size 72 #[.string ⟨x.toArray⟩] := hk.drew.grown hg (fun e => by injection e with e; omega)
  have he' : Blk W' (W.heap.size + 1) 112 #[.string ⟨x.toArray⟩, .int .i32 p, .int .i32 (wty v)] := he.drew.grown hg (fun e => by injection e with e; omega)
  have HF : Hid (WS W' s m (n + 1) (putF f x (p, v)) (incC f x c) ∧ Turn (SM s m) W W') := Lib.hid ⟨⟨hsb', hm'⟩, (turn_nil.then_below (below_drewN hb2 1)).trans (Turn.of_grown hg (fun k hk => by injection hk with hk; exact .inr hk.symm))⟩
  have k0 := And.intro (hws.sb.cell 0) (And.intro (hk.cell 0) (And.intro (he.cell 0) (And.intro (he.cell 1) (he.cell 2))))
  have k1 := And.intro (hsb'.cell 0) (And.intro (hk'.cell 0) (And.intro (he'.cell 0) (And.intro (he'.cell 1) (he'.cell 2))))
  have K0 := Lib.hid k0
  have K1 := Lib.hid k1
  clear k0 k1 hsb' hk' he' hm' hg hk he hws hb1 hb2 h
  go_enter Tryd.func63, Tryd.ntmps63
  go_wp2_with fail
  go_region_held3 (fun w' => w'.cell? ⟨s, 0, none⟩ = some (.map (some m)) ∧ w'.cell? ⟨W.heap.size, 0, none⟩ = some (.string ⟨x.toArray⟩) ∧ w'.cell? ⟨W.heap.size + 1, 0, none⟩ = some (.string ⟨x.toArray⟩) ∧ w'.cell? ⟨W.heap.size + 1, 1, none⟩ = some (.int .i32 p) ∧ w'.cell? ⟨W.heap.size + 1, 2, none⟩ = some (.int .i32 (wty v))) (first | exact K0.out | exact K1.out) (fail)
  all_goals ((try go_wp2); refine bodyPost_end (results_none rfl _ _ _) rfl ?_; exact ⟨rfl, HF.out.1, HF.out.2⟩)
set_option maxRecDepth 100000 in
set_option maxHeartbeats 4000000 in
theorem delete_any (s m n c : Nat) (f : WMap) (x : List UInt8) (W : World) (h : WS W s m n f c) (hl : x.length ≤ 1000) :
    Calls Tryd.prog 64 #[.pointer (some ⟨s, 0, none⟩), .agg #[.string ⟨x.toArray⟩]] W (After W s m n (delF f x) (decC f x c) (.tuple #[])) := by
  have hs := h.sb.lt
  have hm := h.mp.lt
  have hne := h.ne
  have hb1 := below_one W (.cells #[.string ⟨x.toArray⟩] 72)
  have hws := (h.below hb1).drew
  have hdr := fun ty => hws.mp.drop x hl ty
  obtain ⟨W', hrun, hm', hg⟩ := hdr 0
  have hk := Blk.new W 72 #[.string ⟨x.toArray⟩]
  have hsb' : Blk W' s 139 #[.map (some m), .slice none 0 0] := hws.sb.grown hg (fun e => hne (by injection e))
  have hk' : Blk W' W.heap.size 72 #[.string ⟨x.toArray⟩] := hk.drew.grown hg (fun e => by injection e with e; omega)
  have hw2 : WS W' s m n (delF f x) (decC f x c) := ⟨hsb', hm'⟩
  have HF : Hid (WS (W'.setCell ⟨s, 1, none⟩ (.slice none 0 0)) s m n (delF f x) (decC f x c) ∧ Turn (SM s m) W (W'.setCell ⟨s, 1, none⟩ (.slice none 0 0))) := Lib.hid ⟨hw2.nil, (((Turn.of_below hb1 (SM s m)).then_below (below_drewN (Below.refl _ _) 1)).trans (Turn.of_grown hg (fun k hk => by injection hk with hk; exact .inr hk.symm))).trans turn_nil⟩
  have K0 := Lib.hid (And.intro (hws.sb.cell 0) (hk.cell 0))
  have K1 := Lib.hid (And.intro (hsb'.cell 0) (hk'.cell 0))
  have s1 : W'.cell? ⟨s, 1, none⟩ = some (.slice none 0 0) := hsb'.cell 1
  have sf := hsb'.frozen 1
  clear hsb' hk' hw2 hm' hg hk hws hb1 h hdr
  go_enter Tryd.func64, Tryd.ntmps64
  go_wp2_with fail
  go_region_held3 (fun w' => w'.cell? ⟨s, 0, none⟩ = some (.map (some m)) ∧ w'.cell? ⟨W.heap.size, 0, none⟩ = some (.string ⟨x.toArray⟩)) (first | exact K0.out | exact K1.out) (fail)
  all_goals ((try go_wp2); refine bodyPost_end (results_none rfl _ _ _) rfl ?_; exact ⟨rfl, HF.out.1, HF.out.2⟩)
end Go.Proofs.YtijbdinemjiepaaDoor
