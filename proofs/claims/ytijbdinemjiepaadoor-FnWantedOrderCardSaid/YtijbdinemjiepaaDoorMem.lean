/- Words for memory that this claim's contracts are stated in: a slice that reads as a list of cells, a block that is known whole, an append whose source may be nil. Plain theorems over the model's own laws; they speak of no program. -/
import Derived.Below
import Derived.Laws.OwnMore
import Derived.Deep.AppendLies
import Derived.Deep.Draws
import Derived.Laws.Rows
import Derived.Maps.AppendAt
import Derived.RegionTactic
import Derived.OwnWalk
import Derived.Laws.MakeOwn
import Derived.Deep.OwnRows
import Derived.Laws.CopyOwn
import Derived.WalkKit
import Derived.WalkSpells
import Derived.WalkLawsBesides
import Derived.KernelRfl
import Derived.Lib.Hide
import Derived.Laws.BytesArg
import Derived.Lib.LazyBuf
import Derived.Deep.QuietTactic
import Derived.BigQuiet
namespace Go.Proofs.YtijbdinemjiepaaDoor
open Go.RowKit

/-! ### Values -/
def u8s (l : List UInt8) : List Value := l.map fun b => .int .u8 (b.toNat : Int)
def i64s (l : List Int) : List Value := l.map fun z => .int .i64 z
theorem u8s_length (l : List UInt8) : (u8s l).length = l.length := by simp [u8s]
theorem i64s_length (l : List Int) : (i64s l).length = l.length := by simp [i64s]
theorem u8s_append (a b : List UInt8) : u8s (a ++ b) = u8s a ++ u8s b := by simp [u8s]
theorem i64s_append (a b : List Int) : i64s (a ++ b) = i64s a ++ i64s b := by simp [i64s]
theorem u8s_one (l : List UInt8) : ∀ u ∈ u8s l, u.oneCell' = true := by
  intro u hu
  obtain ⟨b, _, rfl⟩ := List.mem_map.1 hu
  rfl
theorem i64s_one (l : List Int) : ∀ u ∈ i64s l, u.oneCell' = true := by
  intro u hu
  obtain ⟨b, _, rfl⟩ := List.mem_map.1 hu
  rfl
theorem u8s_at (l : List UInt8) (j : Nat) (h : j < l.length) : (u8s l)[j]? = some (.int .u8 ((l[j]).toNat : Int)) := by
  simp [u8s, List.getElem?_eq_getElem h]
theorem i64s_at (l : List Int) (j : Nat) (h : j < l.length) : (i64s l)[j]? = some (.int .i64 l[j]) := by
  simp [i64s, List.getElem?_eq_getElem h]
def i16s (l : List Int) : List Value := l.map fun z => .int .i16 z
theorem i16s_length (l : List Int) : (i16s l).length = l.length := by simp [i16s]
theorem i16s_at (l : List Int) (j : Nat) (h : j < l.length) : (i16s l)[j]? = some (.int .i16 l[j]) := by
  simp [i16s, List.getElem?_eq_getElem h]
theorem take_snoc {α : Type} (l : List α) (k : Nat) (h : k < l.length) : l.take (k + 1) = l.take k ++ [l[k]] := List.take_succ_eq_append_getElem h
theorem u8s_drop (l : List UInt8) (k : Nat) : u8s (l.drop k) = (u8s l).drop k := by simp [u8s]
theorem u8s_take (l : List UInt8) (k : Nat) : u8s (l.take k) = (u8s l).take k := by simp [u8s]

/-! ### Addresses -/
theorem block_of_add (a : Addr) (n : Nat) : (a.add n).block = a.block := by unfold Addr.add; split <;> rfl
theorem add_of_add (a : Addr) (i j : Nat) : (a.add i).add j = a.add (i + j) := by
  unfold Addr.add
  by_cases hi : i = 0 <;> by_cases hj : j = 0 <;> simp [hi, hj, Nat.add_assoc]
theorem add_plain (g i j : Nat) : (⟨g, i, none⟩ : Addr).add j = ⟨g, i + j, none⟩ := by unfold Addr.add; split <;> simp_all

/-! ### A slice that reads as a list of cells, nil let in; it lies below block B -/
def Reads (w : World) (B size : Nat) (A : Option Addr) (n : Nat) (xs : List Value) : Prop :=
  xs.length = n * size ∧ (0 < n → ∃ ad, A = some ad ∧ ad.block < B ∧ ∀ j u, xs[j]? = some u → w.cell? (ad.add j) = some u)
section
variable {w w' : World} {B B' size n : Nat} {A : Option Addr} {xs : List Value}
theorem Reads.none_ : Reads w B size A 0 [] := ⟨by simp, fun h => absurd h (by omega)⟩
theorem Reads.at_ {k : Nat} (h : Reads w B 1 A n xs) (hk : k < n) : ∃ ad u, A = some ad ∧ ad.block < B ∧ xs[k]? = some u ∧ w.cell? (ad.add k) = some u := by
  obtain ⟨ad, e, hb, hc⟩ := h.2 (by omega)
  have hl : k < xs.length := by have := h.1; omega
  exact ⟨ad, xs[k], e, hb, List.getElem?_eq_getElem hl, hc k _ (List.getElem?_eq_getElem hl)⟩
/-- The same, the address written out. -/
theorem Reads.lit {k : Nat} (h : Reads w B 1 A n xs) (hk : k < n) : ∃ b o, A = some ⟨b, o, none⟩ ∧ b < B ∧ ∀ j u, xs[j]? = some u → w.cell? ⟨b, o + j, none⟩ = some u := by
  obtain ⟨ad, e, hb, hc⟩ := h.2 (by omega)
  have hl : k < xs.length := by have := h.1; omega
  obtain ⟨b, o, s⟩ := ad
  have h0 := hc 0 _ (List.getElem?_eq_getElem (show 0 < xs.length by omega))
  have hs : s = none := by
    rcases s with _ | s
    · rfl
    · exfalso
      have e1 : (⟨b, o, some s⟩ : Addr).add 0 = ⟨b, o, some s⟩ := by unfold Addr.add; rfl
      rw [e1] at h0
      unfold World.cell? at h0
      split at h0 <;> simp at h0
  subst hs
  exact ⟨b, o, e, hb, fun j u hu => by rw [← add_plain]; exact hc j u hu⟩
theorem Reads.keep (h : Reads w B size A n xs) (hk : ∀ p : Addr, p.block < B → w'.cell? p = w.cell? p) : Reads w' B size A n xs :=
  ⟨h.1, fun hn => by
    obtain ⟨ad, e, hb, hc⟩ := h.2 hn
    exact ⟨ad, e, hb, fun j u hu => (hk _ (by rw [block_of_add]; exact hb)).trans (hc j u hu)⟩⟩
theorem Reads.more (h : Reads w B size A n xs) (hB : B ≤ B') : Reads w B' size A n xs :=
  ⟨h.1, fun hn => by
    obtain ⟨ad, e, hb, hc⟩ := h.2 hn
    exact ⟨ad, e, by omega, hc⟩⟩
theorem Reads.below (h : Reads w B size A n xs) (hb : Below B w w') : Reads w' B size A n xs := h.keep fun _ hp => hb.cell hp
theorem Reads.drew (h : Reads w B size A n xs) : Reads w.drew B size A n xs := h
theorem Reads.drewN (h : Reads w B size A n xs) (k : Nat) : Reads (w.drewN k) B size A n xs := h
theorem Reads.alloc (h : Reads w B size A n xs) (hB : B ≤ w.heap.size) (o : Obj) : Reads (w.alloc o) B size A n xs := h.keep fun p hp => World.cell?_alloc_lt w o p (by omega)
theorem Reads.setCell (h : Reads w B size A n xs) {p : Addr} (hB : B ≤ p.block) (u : Value) : Reads (w.setCell p u) B size A n xs :=
  h.keep fun q hq => World.cell?_setCell_other w p q u (fun e => by subst e; omega)
theorem Reads.grown (h : Reads w B size A n xs) {row : Option Nat} (hg : w.grownBy w' row) (hB : B ≤ w.heap.size) (hr : ∀ g, row = some g → B ≤ g) : Reads w' B size A n xs :=
  h.keep fun p hp => World.cell?_of_block (hg.block p.block (by omega) (fun e => by have := hr _ e.symm; omega))
/-- x[k:], as the model spells it. -/
theorem Reads.cut (h : Reads w B size A n xs) {k cap : Nat} (hk : k ≤ n) (hc : n ≤ cap) :
    Reads w B size (if cap = k then A else A.map (·.add (k * size))) (n - k) (xs.drop (k * size)) := by
  refine ⟨by rw [List.length_drop, h.1, Nat.sub_mul], fun hn => ?_⟩
  obtain ⟨ad, rfl, hb, hcell⟩ := h.2 (by omega)
  rw [if_neg (by omega)]
  refine ⟨ad.add (k * size), rfl, by rw [block_of_add]; exact hb, fun j u hu => ?_⟩
  rw [add_of_add]
  exact hcell _ u (by rw [← hu, List.getElem?_drop])
/-- x[:k]. -/
theorem Reads.head_ (h : Reads w B size A n xs) {k : Nat} (hk : k ≤ n) : Reads w B size A k (xs.take (k * size)) := by
  refine ⟨by rw [List.length_take, h.1, Nat.min_eq_left (Nat.mul_le_mul_right _ hk)], fun hn => ?_⟩
  obtain ⟨ad, rfl, hb, hcell⟩ := h.2 (by omega)
  refine ⟨ad, rfl, hb, fun j u hu => hcell j u ?_⟩
  rw [List.getElem?_take] at hu
  split at hu
  · exact hu
  · cases hu
theorem Reads.of_own {base : Nat} {e : TypeId} {c : Nat} (h : w.ownsRow base e size (.slice A n c) n xs) : Reads w w.heap.size size A n xs := by
  refine ⟨h.1, fun hn => ?_⟩
  obtain ⟨g, cap, hv, _, hlt⟩ := h.form hn
  have hA : A = some ⟨g, 0, none⟩ := by injection hv
  subst hA
  exact ⟨_, rfl, hlt, h.cells (g := g) rfl⟩
/-- The shape of what is owned, and what it reads as. -/
theorem own_shape {base : Nat} {e : TypeId} {v : Value} (h : w.ownsRow base e size v n xs) : ∃ A c, v = .slice A n c ∧ n ≤ c ∧ Reads w w.heap.size size A n xs := by
  rcases h.2 with ⟨rfl, rfl⟩ | ⟨g, cap, cur, rfl, _, _, hnc, _⟩
  · exact ⟨none, 0, rfl, Nat.le_refl _, Reads.of_own h⟩
  · exact ⟨_, cap, rfl, hnc, Reads.of_own h⟩
theorem own_base {base : Nat} {e : TypeId} {v : Value} (h : w.ownsRow base e size v n xs) (k : Nat) (hk : v.ownBlock = some k) : base ≤ k := (h.lt k hk).1
theorem own_more {base base' : Nat} {e : TypeId} {v : Value} (h : w.ownsRow base e size v n xs) (hb : base' ≤ base) : w.ownsRow base' e size v n xs := by
  refine ⟨h.1, ?_⟩
  rcases h.2 with h' | ⟨g, cap, cur, rfl, hg, rest⟩
  · exact .inl h'
  · exact .inr ⟨g, cap, cur, rfl, by omega, rest⟩
theorem own_below {base : Nat} {e : TypeId} {v : Value} (h : w.ownsRow base e size v n xs) (hb : Below w.heap.size w w') : w'.ownsRow base e size v n xs :=
  h.kept (row := none) ⟨hb.os, hb.tape, hb.output, hb.size, fun i hi _ => hb.block i hi⟩ (by cases v.ownBlock <;> simp)
end

/-- One cell of a row of one-cell elements is written. -/
theorem own_set {w : World} {base n g : Nat} {e : TypeId} {v : Value} {xs : List Value} (h : w.ownsRow base e 1 v n xs) (hg : v.ownBlock = some g) (i : Nat) (u : Value) : (w.setCell ⟨g, i, none⟩ u).ownsRow base e 1 v n (xs.set i u) := by
  refine ⟨by rw [List.length_set]; exact h.1, ?_⟩
  rcases h.2 with ⟨rfl, _⟩ | ⟨g', cap, cur, rfl, hb, hh, hnc, hcm, hcs, ht⟩
  · simp [Value.ownBlock] at hg
  · have : g' = g := by simpa [Value.ownBlock] using hg
    subst this
    refine .inr ⟨g', cap, cur.setIfInBounds i u, rfl, hb, by simp [World.setCell, Array.getElem?_modify, hh], hnc, hcm, by simpa using hcs, ?_⟩
    rw [← ht, Array.toList_setIfInBounds, List.take_set]
theorem own_frozen {w : World} {base n g : Nat} {e : TypeId} {size : Nat} {v : Value} {xs : List Value} (h : w.ownsRow base e size v n xs) (hg : v.ownBlock = some g) (i : Nat) : w.frozen? ⟨g, i, none⟩ = false := by
  rcases h.2 with ⟨rfl, _⟩ | ⟨g', cap, cur, rfl, _, hh, _⟩
  · simp [Value.ownBlock] at hg
  · have : g' = g := by simpa [Value.ownBlock] using hg
    subst this
    simp [World.frozen?, hh]
theorem own_cell {w : World} {base n g : Nat} {e : TypeId} {v : Value} {xs : List Value} (h : w.ownsRow base e 1 v n xs) (hg : v.ownBlock = some g) (i : Nat) (u : Value) (hu : xs[i]? = some u) : w.cell? ⟨g, i, none⟩ = some u := by
  have := h.cells hg i u hu
  rwa [add_plain, Nat.zero_add] at this
/-- The shape of what is owned and not empty. -/
theorem own_form {w : World} {base n : Nat} {e : TypeId} {size : Nat} {v : Value} {xs : List Value} (h : w.ownsRow base e size v n xs) (hn : 0 < n) : ∃ g c, v = .slice (some ⟨g, 0, none⟩) n c ∧ n ≤ c ∧ base ≤ g ∧ g < w.heap.size := by
  rcases h.2 with ⟨rfl, h0⟩ | ⟨g, cap, cur, rfl, hb, hh, hnc, _⟩
  · omega
  · exact ⟨g, cap, rfl, hnc, hb, (Array.getElem?_eq_some_iff.1 hh).1⟩

/-! ### A block that is known whole -/
def Blk (w : World) (g : Nat) (t : TypeId) (cs : Array Value) : Prop := w.heap[g]? = some (.cells cs t (0, 0))
section
variable {w w' : World} {g : Nat} {t : TypeId} {cs : Array Value}
theorem Blk.lt (h : Blk w g t cs) : g < w.heap.size := by
  rcases Nat.lt_or_ge g w.heap.size with hlt | hge
  · exact hlt
  · unfold Blk at h; rw [Array.getElem?_eq_none hge] at h; cases h
theorem Blk.cell (h : Blk w g t cs) (i : Nat) : w.cell? ⟨g, i, none⟩ = cs[i]? := cell_of_row w g i cs t (0, 0) h
theorem Blk.frozen (h : Blk w g t cs) (i : Nat) : w.frozen? ⟨g, i, none⟩ = false := by
  unfold Blk at h
  simp [World.frozen?, h]
theorem Blk.new (w : World) (t : TypeId) (cs : Array Value) : Blk (w.alloc (.cells cs t)) w.heap.size t cs := heap_alloc_new w _
theorem Blk.drew (h : Blk w g t cs) : Blk w.drew g t cs := h
theorem Blk.drewN (h : Blk w g t cs) (n : Nat) : Blk (w.drewN n) g t cs := h
theorem Blk.alloc (h : Blk w g t cs) (o : Obj) : Blk (w.alloc o) g t cs := (Below.heap_alloc w o g h.lt).trans h
theorem Blk.set_ (h : Blk w g t cs) (i : Nat) (u : Value) : Blk (w.setCell ⟨g, i, none⟩ u) g t (cs.setIfInBounds i u) := by
  unfold Blk at h ⊢
  simp [World.setCell, Array.getElem?_modify, h]
theorem Blk.far (h : Blk w g t cs) {p : Addr} (hp : g ≠ p.block) (u : Value) : Blk (w.setCell p u) g t cs := (Below.heap_setCell w p u g hp).trans h
theorem Blk.below {B : Nat} (h : Blk w g t cs) (hb : Below B w w') (hg : g < B) : Blk w' g t cs := (hb.block g hg).trans h
theorem Blk.grown {row : Option Nat} (h : Blk w g t cs) (hb : w.grownBy w' row) (hg : some g ≠ row) : Blk w' g t cs := (hb.block g h.lt hg).trans h
theorem Blk.ne_ {g' : Nat} {t' : TypeId} {cs' : Array Value} (h : Blk w g t cs) (h' : Blk w g' t' cs') (hne : t ≠ t') : g ≠ g' := by
  rintro rfl
  unfold Blk at h h'
  rw [h] at h'
  injection h' with h'
  injection h' with _ ht
  exact hne ht
theorem own_blk_ne {base : Nat} {e : TypeId} {size n : Nat} {v : Value} {xs : List Value} (h : w.ownsRow base e size v n xs) (hg : Blk w g t cs) (hne : e ≠ t) : v.ownBlock ≠ some g := by
  rcases h.2 with ⟨rfl, _⟩ | ⟨g', cap, cur, rfl, _, hh, _⟩
  · simp [Value.ownBlock]
  · intro he
    have : g' = g := by simpa [Value.ownBlock] using he
    subst this
    exact Blk.ne_ (t := e) hh hg hne rfl
/-- A block that is known whole, as a row that the call owns; and a slice of it from its head. -/
theorem Blk.own (h : Blk w g t cs) (base n cap : Nat) (hb : base ≤ g) (hn : n ≤ cap) (hm : cap ≤ maxLen) (hs : cs.size = cap) : w.ownsRow base t 1 (.slice (some ⟨g, 0, none⟩) n cap) n (cs.toList.take n) :=
  ⟨by rw [List.length_take, Array.length_toList, hs, Nat.mul_one, Nat.min_eq_left hn], .inr ⟨g, cap, cs, rfl, hb, h, hn, hm, by omega, by rw [Nat.mul_one]⟩⟩
theorem Blk.reads (h : Blk w g t cs) (o n : Nat) (hn : o + n ≤ cs.size) : Reads w w.heap.size 1 (some ⟨g, o, none⟩) n ((cs.toList.drop o).take n) := by
  refine ⟨by rw [List.length_take, List.length_drop, Array.length_toList]; omega, fun _ => ⟨_, rfl, h.lt, fun j u hu => ?_⟩⟩
  rw [add_plain, h.cell]
  rw [List.getElem?_take] at hu
  split at hu
  · rwa [List.getElem?_drop, Array.getElem?_toList] at hu
  · cases hu
end

theorem Blk.reads_from {w : World} {g : Nat} {t : TypeId} {cs : Array Value} (h : Blk w g t cs) (o : Nat) (ho : o ≤ cs.size) : Reads w w.heap.size 1 (some ⟨g, o, none⟩) (cs.size - o) (cs.toList.drop o) := by
  have hr := h.reads o (cs.size - o) (by omega)
  rwa [List.take_of_length_le (by simp)] at hr

/-- A literal that has just been laid. -/
theorem reads_lit (w : World) (e : TypeId) (cs : List Value) : Reads (w.alloc (.cells cs.toArray e)) (w.heap.size + 1) 1 (some ⟨w.heap.size, 0, none⟩) cs.length cs := by
  have h := (Blk.new w e cs.toArray).reads_from 0 (by simp)
  simpa using h

/-- A literal laid behind another block. -/
theorem reads_lit2 (w : World) (o : Obj) (e : TypeId) (cs : List Value) : Reads ((w.alloc o).alloc (.cells cs.toArray e)) (w.heap.size + 2) 1 (some ⟨w.heap.size + 1, 0, none⟩) cs.length cs := by
  have h := reads_lit (w.alloc o) e cs
  rw [World.size_alloc] at h
  exact h

/-! ### What a call leaves -/
/-- It returns a row of its own that reads as xs, nil just where 'nil' says so; all that was there is as it was. -/
structure Made (w : World) (e : TypeId) (size n : Nat) (xs : List Value) (nil : Prop) (r : Ending) (w' : World) : Prop where
  ex : ∃ v, r = .returned v ∧ w'.ownsRow w.heap.size e size v n xs ∧ (v = .slice none 0 0 ↔ nil)
  below : Below w.heap.size w w'

/-- The same, whether it is nil left open. -/
structure Owns (w : World) (e : TypeId) (size n : Nat) (xs : List Value) (r : Ending) (w' : World) : Prop where
  ex : ∃ v, r = .returned v ∧ w'.ownsRow w.heap.size e size v n xs
  below : Below w.heap.size w w'
/-- Slices of whole numbers that are elements of a slice. -/
def RowsI (w : World) (B : Nat) (vs : List Value) (zss : List (List Int)) : Prop :=
  vs.length = zss.length ∧ ∀ (i : Nat) (zs : List Int), zss[i]? = some zs → ∃ (A : Option Addr) (c : Nat), vs[i]? = some (Value.slice A zs.length c) ∧ zs.length ≤ c ∧ Reads w B 1 A zs.length (i64s zs)
theorem RowsI.below {w w' : World} {B : Nat} {vs : List Value} {zss : List (List Int)} (h : RowsI w B vs zss) (hb : Below B w w') : RowsI w' B vs zss :=
  ⟨h.1, fun i zs hz => by
    obtain ⟨A, c, h1, h2, h3⟩ := h.2 i zs hz
    exact ⟨A, c, h1, h2, h3.below hb⟩⟩

theorem RowsI.more {w : World} {B B' : Nat} {vs : List Value} {zss : List (List Int)} (h : RowsI w B vs zss) (hB : B ≤ B') : RowsI w B' vs zss :=
  ⟨h.1, fun i zs hz => by
    obtain ⟨A, c, h1, h2, h3⟩ := h.2 i zs hz
    exact ⟨A, c, h1, h2, h3.more hB⟩⟩
theorem RowsI.nil (w : World) (B : Nat) : RowsI w B [] [] := ⟨rfl, fun i zs h => by simp at h⟩
theorem RowsI.cons {w : World} {B : Nat} {vs : List Value} {zss : List (List Int)} (h : RowsI w B vs zss) {A : Option Addr} {n c : Nat} {zs : List Int} (hr : Reads w B 1 A n (i64s zs)) (hc : n ≤ c) : RowsI w B (.slice A n c :: vs) (zs :: zss) := by
  have hn : zs.length = n := by have := hr.1; simp only [i64s_length, Nat.mul_one] at this; exact this
  subst hn
  refine ⟨by simp [h.1], fun i ys hy => ?_⟩
  cases i with
  | zero =>
    obtain rfl : zs = ys := by simpa using hy
    exact ⟨A, c, rfl, hc, hr⟩
  | succ i => exact h.2 i ys (by simpa using hy)
/-- Two rows share no block. -/
def Apart (u d : Value) : Prop := ∀ k, u.ownBlock = some k → d.ownBlock ≠ some k
theorem Apart.symm {u d : Value} (h : Apart u d) : Apart d u := fun k hk he => h k he hk
theorem apart_nil (d : Value) : Apart (.slice none 0 0) d := fun k hk => by simp [Value.ownBlock] at hk
theorem own_beside {w w' : World} {base n : Nat} {e : TypeId} {size : Nat} {u d : Value} {xs : List Value} (h : w.ownsRow base e size d n xs) (hg : w.grownBy w' u.ownBlock) (ha : Apart u d) : w'.ownsRow base e size d n xs := by
  refine h.kept hg ?_
  rcases hd : d.ownBlock with _ | k
  · exact .inl rfl
  · exact .inr fun e => ha k e.symm hd
theorem apart_grown {w : World} {base n : Nat} {e : TypeId} {size : Nat} {u u' d : Value} {xs : List Value} (h : w.ownsRow base e size d n xs) (ha : Apart u d) (hat : u'.ownBlock = u.ownBlock ∨ ∃ k, u'.ownBlock = some k ∧ w.heap.size ≤ k) : Apart u' d := by
  intro k hk hd
  rcases hat with hat | ⟨j, hj, hle⟩
  · exact ha k (hat ▸ hk) hd
  · have := (h.lt k hd).2
    have : j = k := by rw [hj] at hk; exact Option.some.inj hk
    omega

/-! ### Frames -/
theorem only_set (w : World) (g o : Nat) (u : Value) : w.grownBy (w.setCell ⟨g, o, none⟩ u) (some g) :=
  ⟨rfl, rfl, rfl, by simp [World.setCell], fun i _ hne => Below.heap_setCell w ⟨g, o, none⟩ u i (fun e => hne (by rw [e]))⟩
theorem only_drew {a w : World} {row : Option Nat} (h : a.grownBy w row) : a.grownBy w.drew row := ⟨h.os, h.tape, h.output, h.size, h.block⟩
theorem only_drewN {a w : World} {row : Option Nat} (h : a.grownBy w row) (n : Nat) : a.grownBy (w.drewN n) row := ⟨h.os, h.tape, h.output, h.size, h.block⟩
theorem only_of_below {a w : World} (h : Below a.heap.size a w) (row : Option Nat) : a.grownBy w row := ⟨h.os, h.tape, h.output, h.size, fun i hi _ => h.block i hi⟩
theorem only_alloc {a w : World} {row : Option Nat} (h : a.grownBy w row) (o : Obj) : a.grownBy (w.alloc o) row :=
  ⟨h.os, h.tape, h.output, Nat.le_trans h.size (by simp), fun i hi hne => (Below.heap_alloc w o i (Nat.lt_of_lt_of_le hi h.size)).trans (h.block i hi hne)⟩
theorem only_trans {a b c : World} {row : Option Nat} (h : a.grownBy b row) (k : b.grownBy c row) : a.grownBy c row :=
  ⟨k.os.trans h.os, k.tape.trans h.tape, k.output.trans h.output, Nat.le_trans h.size k.size, fun i hi hne => (k.block i (Nat.lt_of_lt_of_le hi h.size) hne).trans (h.block i hi hne)⟩
theorem below_drewN {B : Nat} {a w : World} (h : Below B a w) (n : Nat) : Below B a (w.drewN n) := ⟨h.os, h.tape, h.output, h.size, h.block⟩
theorem below_alloc {w W : World} (h : Below w.heap.size w W) (o : Obj) : Below w.heap.size w (W.alloc o) := h.alloc h.size o
theorem below_then {B : Nat} {w w1 w2 : World} (h : Below B w w1) (hB : B ≤ w1.heap.size) (k : Below w1.heap.size w1 w2) : Below B w w2 := h.trans (k.mono hB)
theorem below_one (w : World) (o : Obj) : Below w.heap.size w (w.alloc o) := (Below.refl _ _).alloc (Nat.le_refl _) o
theorem cell_alloc {w : World} {a : Addr} {v : Value} (h : w.cell? a = some v) (o : Obj) : (w.alloc o).cell? a = some v := cell_later (below_one w o) h

/-! ### A region that draws its order, whose operations read and whose callees hand back plain values: the callees may make memory -/
/-- A world in which all that was there is as it was. -/
structure Ext (w : World) where
  val : World
  below : Below w.heap.size w val
instance (w : World) : Nonempty (Ext w) := ⟨⟨w, Below.refl _ _⟩⟩
theorem wp_region_ext {P : Program} {id : Nat} {Q : Exit → Act → World → Prop} {a : Act} {w : World} {l : List Oper} (hm : P.follows .mixedOrders = true) (hB : Region.lexB .any l.toArray = true)
    (h : wpQuiet P l.toArray (fun w' => ∃ x : Ext w, w' = x.val) (fun a' => ∀ w', (∃ x : Ext w, w' = x.val) → Q .normal a' w') l a) : (Code.region id l.toArray true).wp P Q a w :=
  wp_region_quiet (C := fun w' => ∃ x : Ext w, w' = x.val) hm hB ⟨⟨_, (Below.refl w.heap.size w).drew⟩, rfl⟩ (by simpa using h)
theorem calls_ext {P : Program} {f : FuncId} {args : Array Value} {w : World} {v : Value} (x : Ext w) (h : ∀ y : World, Below w.heap.size w y → Calls P f args y fun r w' => r = .returned v ∧ Below y.heap.size y w') :
    Calls P f args x.val fun r w'' => r = .returned v ∧ ∃ z : Ext w, w'' = z.val :=
  (h x.val x.below).mono fun _ w'' ⟨hr, hb⟩ => ⟨hr, ⟨w'', x.below.trans (hb.mono x.below.size)⟩, rfl⟩
theorem cell_ext {w : World} {a : Addr} {v : Value} (h : w.cell? a = some v) (x : Ext w) : x.val.cell? a = some v := cell_later x.below h

/-! ### append onto a row of the call's own, the source nil, empty or not -/
section
variable {P : Program} (w : World)
theorem run_append_of_nil (base : Nat) (t ty e : TypeId) (i : TypeInfo) (size : Nat) (ht : P.underlying t = some (.slice e)) (hi : P.info? e = some i)
    (v : Value) (n : Nat) (xs : List Value) (hown : w.ownsRow base e size v n xs) (c : Nat) : (Builtin.append_ #[t, t] ty #[v, .slice none 0 c]).run P w = .ok v w := by
  rcases hown.2 with ⟨rfl, rfl⟩ | ⟨g, cap, cur, rfl, _, _, hnc, _⟩
  · simp [Builtin.append_, run_underlying ht, sizeOf, typeInfo, hi, Builtin.lenOf, Builtin.firstCells]
  · simp [Builtin.append_, run_underlying ht, sizeOf, typeInfo, hi, Builtin.lenOf, Builtin.firstCells, hnc, storeCells]
theorem run_append_any (base : Nat) (t ty e : TypeId) (i : TypeInfo) (z : Value) (size bytes : Nat) (ht : P.underlying t = some (.slice e)) (hi : P.info? e = some i) (hz : i.zero = some z)
    (hsize : i.size = size) (hby : i.bytes = bytes) (hzs : z.cells.size = size) (hsz : 0 < size)
    (v : Value) (n : Nat) (xs : List Value) (hown : w.ownsRow base e size v n xs)
    (B : Nat) (A : Option Addr) (m c : Nat) (news : List Value) (hr : Reads w B size A m news) (h1 : ∀ u ∈ news, u.oneCell' = true)
    (h63 : n + m ≤ maxLen) (hbytes : (n + m) * bytes ≤ 140737488355328) (hbase : base ≤ w.heap.size) :
    ∃ v' w', (Builtin.append_ #[t, t] ty #[v, .slice A m c]).run P w = .ok v' w' ∧ w'.ownsRow base e size v' (n + m) (xs ++ news) ∧ w.grownBy w' v.ownBlock ∧
      (v'.ownBlock = v.ownBlock ∨ v'.ownBlock = some w.heap.size) ∧ (v' = .slice none 0 0 ↔ v = .slice none 0 0 ∧ m = 0) := by
  rcases A with _ | ad
  · have hm : m = 0 := by
      rcases Nat.eq_zero_or_pos m with h0 | h0
      · exact h0
      · obtain ⟨ad, h, _⟩ := hr.2 h0
        cases h
    subst hm
    have hn : news = [] := List.eq_nil_of_length_eq_zero (by simpa using hr.1)
    subst hn
    exact ⟨v, w, run_append_of_nil w base t ty e i size ht hi v n xs hown c, by simpa using hown, World.grownBy.refl w _, .inl rfl, ⟨fun h => ⟨h, rfl⟩, fun h => h.1⟩⟩
  · have hcells : ∀ j u, news[j]? = some u → w.cell? (ad.add j) = some u := by
      intro j u hu
      rcases Nat.eq_zero_or_pos m with h0 | h0
      · subst h0
        have hn : news = [] := List.eq_nil_of_length_eq_zero (by simpa using hr.1)
        subst hn
        simp at hu
      · obtain ⟨ad', h, _, hc⟩ := hr.2 h0
        injection h with h
        subst h
        exact hc j u hu
    obtain ⟨v', w', hrun, h2, h3, h4, h5⟩ := run_append_own_at (P := P) w base t ty e i z size bytes ht hi hz hsize hby hzs hsz v n xs hown ad m c news hr.1 hcells h1 h63 hbytes hbase
    exact ⟨v', w', hrun, h2, h3, h5, h4⟩
theorem wpList_append_any {ops : Array Oper} {rest : List Oper} {o : Oper} {a : Act} {Q : Exit → Act → World → Prop} (hgd : o.guard = none) (s x : Operand) (t : TypeId)
    (ho : o.op = .call { callee := .builtin .append, args := #[s, x], argTypes := #[t, t] })
    (base : Nat) (e : TypeId) (i : TypeInfo) (z : Value) (size bytes : Nat) (ht : P.underlying t = some (.slice e)) (hi : P.info? e = some i) (hz : i.zero = some z)
    (hsize : i.size = size) (hby : i.bytes = bytes) (hzs : z.cells.size = size) (hsz : 0 < size)
    (v : Value) (n : Nat) (xs : List Value) (hs : a.eval s = v) (hown : w.ownsRow base e size v n xs)
    (B : Nat) (A : Option Addr) (m c : Nat) (news : List Value) (hx : a.eval x = .slice A m c) (hr : Reads w B size A m news) (h1 : ∀ u ∈ news, u.oneCell' = true)
    (h63 : n + m ≤ maxLen) (hbytes : (n + m) * bytes ≤ 140737488355328) (hbase : base ≤ w.heap.size)
    (h : ∀ v' w', w'.ownsRow base e size v' (n + m) (xs ++ news) → w.grownBy w' v.ownBlock → (v'.ownBlock = v.ownBlock ∨ v'.ownBlock = some w.heap.size) → (v' = .slice none 0 0 ↔ v = .slice none 0 0 ∧ m = 0) → wpList P ops Q rest (a.put o.dst v') w') : wpList P ops Q (o :: rest) a w := by
  refine wpList_plain hgd fun K hK => ?_
  obtain ⟨v', w', hrun, h2, h3, h4, h5⟩ := run_append_any (P := P) w base t o.type e i z size bytes ht hi hz hsize hby hzs hsz v n xs hown B A m c news hr h1 h63 hbytes hbase
  unfold Oper.wp execOp
  simp only [ho, resolve, invoke, builtin, Sem.run_bind, Sem.run_pure, Result.andThen_ok, List.map_toArray, List.map_cons, List.map_nil, hs, hx, hrun]
  exact hK _ _ (h v' w' h2 h3 h4 h5)
end

/-- append(v, y): the variadic's box lies just ahead. -/
theorem wpList_append_one {P : Program} {ops : Array Oper} {rest : List Oper} {o : Oper} {a : Act} {Q : Exit → Act → World → Prop} {W : World} {e : TypeId} {y : Value} (hgd : o.guard = none) (s x : Operand) (t : TypeId)
    (ho : o.op = .call { callee := .builtin .append, args := #[s, x], argTypes := #[t, t] })
    (base : Nat) (i : TypeInfo) (z : Value) (bytes : Nat) (ht : P.underlying t = some (.slice e)) (hi : P.info? e = some i) (hz : i.zero = some z)
    (hsize : i.size = 1) (hby : i.bytes = bytes) (hzs : z.cells.size = 1)
    (v : Value) (n : Nat) (xs : List Value) (hs : a.eval s = v) (hown : W.ownsRow base e 1 v n xs)
    (hx : a.eval x = .slice (some ⟨W.heap.size, 0, none⟩) 1 1) (h1 : y.oneCell' = true)
    (h63 : n + 1 ≤ maxLen) (hbytes : (n + 1) * bytes ≤ 140737488355328) (hbase : base ≤ W.heap.size)
    (h : ∀ v' w', w'.ownsRow base e 1 v' (n + 1) (xs ++ [y]) → W.grownBy w' v.ownBlock → (v'.ownBlock = v.ownBlock ∨ ∃ k, v'.ownBlock = some k ∧ W.heap.size ≤ k) → v' ≠ .slice none 0 0 → wpList P ops Q rest (a.put o.dst v') w') : wpList P ops Q (o :: rest) a (W.alloc (.cells #[y] e)) := by
  refine wpList_append_any (W.alloc (.cells #[y] e)) hgd s x t ho base e i z 1 bytes ht hi hz hsize hby hzs (by decide) v n xs hs (hown.alloc _) (W.heap.size + 1) _ 1 1 [y] hx (reads_lit W e [y]) (by simpa using h1) h63 hbytes (by simp; omega) ?_
  intro v' w' hown' hg hat hnil
  refine h v' w' hown' (only_trans (World.grownBy_alloc W _ _) hg) ?_ (fun e => ?_)
  · rcases hat with hat | hat
    · exact .inl hat
    · exact .inr ⟨_, hat, by simp⟩
  · have := (hnil.1 e).2
    omega

/-! ### string(b), and b == nil -/
theorem run_convert_reads {P : Program} (w : World) (src e : TypeId) (hs : P.underlying src = some (.slice e)) (he : P.underlying e = some (.int .u8)) (B : Nat) (A : Option Addr) (n c : Nat) (l : List UInt8)
    (hr : Reads w B 1 A n (u8s l)) : ∀ dst, P.underlying dst = some .string → (convert src dst (.slice A n c)).run P w = .ok (.string ⟨l.toArray⟩) w := by
  intro dst hd
  have hn : l.length = n := by have := hr.1; simp [u8s_length] at this; exact this
  rcases A with _ | ad
  · have h0 : n = 0 := by
      rcases Nat.eq_zero_or_pos n with h0 | h0
      · exact h0
      · obtain ⟨ad, h, _⟩ := hr.2 h0
        cases h
    obtain rfl : l = [] := List.eq_nil_of_length_eq_zero (by omega)
    exact run_convert_bytes_nil w src e hs he n c dst hd
  · have e1 : u8s l = (l.map fun b => (b.toNat : Int)).map (Value.int .u8) := by simp [u8s]
    have hl : (loadCells ad n).run P w = .ok ((l.map fun b => (b.toNat : Int)).map (Value.int .u8)).toArray w := by
      have := run_loadCells_list (P := P) w ad ((l.map fun b => (b.toNat : Int)).map (Value.int .u8)) (fun j v hj => by
        rw [← e1] at hj
        obtain ⟨ad', h, _, hc⟩ := hr.2 (by
          have hj2 : j < (u8s l).length := (List.getElem?_eq_some_iff.1 hj).1
          rw [u8s_length] at hj2
          omega)
        cases h
        exact hc j v hj)
      simpa [hn] using this
    rw [run_convert_bytes_string w src dst e _ n c hs he hd, run_bytesToString w _ n c _ hl, foldl_push_bytes]
    simp [ByteArray.empty, ByteArray.emptyWithCapacity, Function.comp_def]
    rfl

/-! ### make([]T, n) of one-cell elements -/
theorem run_make_one {P : Program} (t e : TypeId) (z : Value) (bytes : Nat) (ht : P.underlying t = some (.slice e)) (hinfo : (P.info? e).map (fun i => (i.zero, i.size, i.bytes)) = some (some z, 1, bytes)) (hz : z.cells = #[z])
    (m : Nat) (hn : m * bytes ≤ 281474976710656) (hm : m ≤ 9223372036854775807) :
    ∀ W : World, (Instr.makeSlice t (.int .i64 (m : Int)) (.int .i64 (m : Int))).run P W = .ok (.slice (some ⟨W.heap.size, 0, none⟩) m m) (W.alloc (.cells (madeCells #[z] m) e)) := by
  intro W
  exact run_make_row' t e z bytes ht hinfo hz .i64 .i64 m (by rw [Nat.mul_comm]; exact hn) hm W
theorem madeCells_one (z : Value) (m : Nat) : (madeCells #[z] m).toList = List.replicate m z := by
  apply List.ext_getElem
  · simp [madeCells]
  · intro i h1 h2
    simp [madeCells, Nat.mod_one]
end Go.Proofs.YtijbdinemjiepaaDoor
