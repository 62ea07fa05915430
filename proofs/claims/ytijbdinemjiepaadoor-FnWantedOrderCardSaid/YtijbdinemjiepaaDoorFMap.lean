/- A map that the call makes, as a function of its keys. -/
import Derived.Maps.OwnSet
import Derived.StringKeys
import Derived.Test.YtijbdinemjiepaaDoorMem
namespace Go.Proofs.YtijbdinemjiepaaDoor
open Go.RowKit

section
variable {κ α : Type}
/-- What a key is put at. -/
def putF [DecidableEq κ] (f : κ → Option α) (x : κ) (a : α) : κ → Option α := fun y => if x = y then some a else f y
def delF [DecidableEq κ] (f : κ → Option α) (x : κ) : κ → Option α := fun y => if x = y then none else f y
variable {w w' : World} {P : Program} {k : TypeId} {R : Value → Option (DataW Unit × List MemPlace)} {b n : Nat} {key : κ → Lit} {val : α → DataW Unit} {f : κ → Option α}
/-- Block b is a map of at most n entries that tells f. -/
def FMap (w : World) (P : Program) (k : TypeId) (R : Value → Option (DataW Unit × List MemPlace)) (b n : Nat) (key : κ → Lit) (val : α → DataW Unit) (f : κ → Option α) : Prop :=
  ∃ D, w.ownsMap P k R b n D ∧ Maps.IsMap D ∧ ∀ (x : κ) (z : DataW Unit), Maps.has D (key x) = (f x).isSome ∧ D.atKey (key x) z = ((f x).map val).getD z
theorem FMap.made (w : World) (P : Program) (k : TypeId) (R : Value → Option (DataW Unit × List MemPlace)) (key : κ → Lit) (val : α → DataW Unit) : FMap (w.alloc (.map #[] 0)) P k R w.heap.size 0 key val (fun _ => none) :=
  ⟨.map [], World.ownsMap_made w P k R, Maps.isMap_empty, fun _ z => ⟨rfl, Maps.atKey_of_not_has rfl z⟩⟩
theorem FMap.kept (h : FMap w P k R b n key val f) {row : Option Nat} (hg : w.grownBy w' row) (hne : some b ≠ row) : FMap w' P k R b n key val f := by
  obtain ⟨D, h1, h2⟩ := h
  exact ⟨D, h1.kept hg hne, h2⟩
theorem FMap.below (h : FMap w P k R b n key val f) {B : Nat} (hb : Below B w w') (hB : b < B) : FMap w' P k R b n key val f := by
  obtain ⟨D, h1, h2⟩ := h
  obtain ⟨es, clock, hb2, r⟩ := h1
  exact ⟨D, ⟨es, clock, (hb.block b hB).trans hb2, r⟩, h2⟩
theorem FMap.alloc (h : FMap w P k R b n key val f) (o : Obj) : FMap (w.alloc o) P k R b n key val f := by
  obtain ⟨D, h1, h2⟩ := h
  exact ⟨D, h1.alloc o, h2⟩
theorem FMap.lt (h : FMap w P k R b n key val f) : b < w.heap.size := by
  obtain ⟨D, h1, h2⟩ := h
  exact h1.lt
theorem FMap.mono (h : FMap w P k R b n key val f) {m : Nat} (hm : n ≤ m) : FMap w P k R b m key val f := by
  obtain ⟨D, h1, h2⟩ := h
  exact ⟨D, h1.mono hm, h2⟩
theorem FMap.tells [DecidableEq κ] {D : DataW Unit} (inj : ∀ x y, key x = key y → x = y) (kl : ∀ x, WideAt.IsKeyLit (key x)) (hD : Maps.IsMap D) (h : ∀ (x : κ) (z : DataW Unit), Maps.has D (key x) = (f x).isSome ∧ D.atKey (key x) z = ((f x).map val).getD z) (x : κ) (a : α) :
    ∀ (y : κ) (z : DataW Unit), Maps.has (D.put (key x) (val a)) (key y) = (putF f x a y).isSome ∧ (D.put (key x) (val a)).atKey (key y) z = ((putF f x a y).map val).getD z := by
  intro y z
  unfold putF
  by_cases hxy : x = y
  · subst hxy
    rw [if_pos rfl, Maps.has_put_same hD (kl x), Maps.atKey_put_same hD (kl x)]
    exact ⟨rfl, rfl⟩
  · have hne : key y ≠ key x := fun e => hxy (inj _ _ e).symm
    rw [if_neg hxy, Maps.has_put_other hne, Maps.atKey_put_other hne]
    exact h y z
theorem FMap.drops [DecidableEq κ] {D : DataW Unit} (inj : ∀ x y, key x = key y → x = y) (h : ∀ (x : κ) (z : DataW Unit), Maps.has D (key x) = (f x).isSome ∧ D.atKey (key x) z = ((f x).map val).getD z) (x : κ) :
    ∀ (y : κ) (z : DataW Unit), Maps.has (D.del (key x)) (key y) = (delF f x y).isSome ∧ (D.del (key x)).atKey (key y) z = ((delF f x y).map val).getD z := by
  intro y z
  unfold delF
  by_cases hxy : x = y
  · subst hxy
    rw [if_pos rfl, Maps.has_del_same, Maps.atKey_del_same]
    exact ⟨rfl, rfl⟩
  · have hne : key y ≠ key x := fun e => hxy (inj _ _ e).symm
    rw [if_neg hxy, Maps.has_del_other hne, Maps.atKey_del_other hne]
    exact h y z
end
section
variable {κ α : Type} {P : Program} {ops : Array Oper} {rest : List Oper} {o : Oper} {a : Act} {Q : Exit → Act → World → Prop}
theorem wpList_fm_put [DecidableEq κ] (w : World) (hg : o.guard = none) (m x v : Operand) (t : TypeId) (hop : o.op = Op.mapUpdate t m x v) (k e : TypeId) (K : Maps.Keyed P k) (ht : P.underlying t = some (.map k e)) {R : Value → Option (DataW Unit × List MemPlace)} {b n : Nat} {key : κ → Lit} {val : α → DataW Unit} {f : κ → Option α}
    (inj : ∀ x y, key x = key y → x = y) (kl : ∀ x, WideAt.IsKeyLit (key x)) (hm : a.eval m = .map (some b)) (hown : FMap w P k R b n key val f) (hn : n < maxLen) (kv vv : Value) (xk : κ) (av : α) (hx : a.eval x = kv) (hv : a.eval v = vv) (hkey : keyOf P k kv = some (key xk)) (ps : List MemPlace) (hval : R vv = some (val av, ps))
    (hK : ∀ w', FMap w' P k R b (n + 1) key val (putF f xk av) → w.grownBy w' (some b) → wpList P ops Q rest (a.put o.dst undef) w') : wpList P ops Q (o :: rest) a w := by
  obtain ⟨D, h1, h2, h3⟩ := hown
  exact wpList_mapUpdate_own w hg m x v t hop k e K ht R b n D hm h1 hn kv vv _ hx hv hkey _ ps hval fun w' hw' hg' => hK w' ⟨_, hw', h2.put _ _, FMap.tells inj kl h2 h3 xk av⟩ hg'
theorem wpList_fm_del [DecidableEq κ] (w : World) (hg : o.guard = none) (m x : Operand) (t k : TypeId) (hop : o.op = Op.call { callee := Callee.builtin Builtin.delete, args := #[m, x], argTypes := #[t, k] }) (e : TypeId) (K : Maps.Keyed P k) (ht : P.underlying t = some (.map k e)) {R : Value → Option (DataW Unit × List MemPlace)} {b n : Nat} {key : κ → Lit} {val : α → DataW Unit} {f : κ → Option α}
    (inj : ∀ x y, key x = key y → x = y) (hm : a.eval m = .map (some b)) (hown : FMap w P k R b n key val f) (kv : Value) (xk : κ) (hx : a.eval x = kv) (hkey : keyOf P k kv = some (key xk))
    (hK : ∀ w', FMap w' P k R b n key val (delF f xk) → w.grownBy w' (some b) → wpList P ops Q rest (a.put o.dst (.tuple #[])) w') : wpList P ops Q (o :: rest) a w := by
  obtain ⟨D, h1, h2, h3⟩ := hown
  exact wpList_delete_own w hg m x t k hop e K ht R b n D hm h1 kv _ hx hkey fun w' hw' hg' => hK w' ⟨_, hw', h2.del _, FMap.drops inj h3 xk⟩ hg'.grown
theorem wpList_fm_hit (w : World) (hg : o.guard = none) (m x : Operand) (t : TypeId) (hop : o.op = Op.lookup t m x true) (k e : TypeId) (K : Maps.Keyed P k) (ht : P.underlying t = some (.map k e)) {R : Value → Option (DataW Unit × List MemPlace)} {z : Value} (hz : (zeroValue e).run P w = .ok z w) (zd : DataW Unit) (zp : List MemPlace) (hzd : R z = some (zd, zp)) {b n : Nat} {key : κ → Lit} {val : α → DataW Unit} {f : κ → Option α}
    (hm : a.eval m = .map (some b)) (hown : FMap w P k R b n key val f) (kv : Value) (xk : κ) (hx : a.eval x = kv) (hkey : keyOf P k kv = some (key xk)) (av : α) (hf : f xk = some av) (V : Value) (hV : ∀ v ps, R v = some (val av, ps) → v = V)
    (hK : wpList P ops Q rest (a.put o.dst (.tuple #[V, .bool true])) w) : wpList P ops Q (o :: rest) a w := by
  obtain ⟨D, h1, h2, h3⟩ := hown
  have h4 := h3 xk zd
  rw [hf] at h4
  refine wpList_lookup_own_ok w hg m x t hop k e K ht R hz zd zp hzd b n D hm h1 kv _ hx hkey fun v ps hv => ?_
  rw [h4.2] at hv
  rw [hV v ps hv, h4.1]
  exact hK
theorem wpList_fm_miss (w : World) (hg : o.guard = none) (m x : Operand) (t : TypeId) (hop : o.op = Op.lookup t m x true) (k e : TypeId) (K : Maps.Keyed P k) (ht : P.underlying t = some (.map k e)) {R : Value → Option (DataW Unit × List MemPlace)} {z : Value} (hz : (zeroValue e).run P w = .ok z w) (zd : DataW Unit) (zp : List MemPlace) (hzd : R z = some (zd, zp)) {b n : Nat} {key : κ → Lit} {val : α → DataW Unit} {f : κ → Option α}
    (hm : a.eval m = .map (some b)) (hown : FMap w P k R b n key val f) (kv : Value) (xk : κ) (hx : a.eval x = kv) (hkey : keyOf P k kv = some (key xk)) (hf : f xk = none) (hV : ∀ v ps, R v = some (zd, ps) → v = z)
    (hK : wpList P ops Q rest (a.put o.dst (.tuple #[z, .bool false])) w) : wpList P ops Q (o :: rest) a w := by
  obtain ⟨D, h1, h2, h3⟩ := hown
  have h4 := h3 xk zd
  rw [hf] at h4
  refine wpList_lookup_own_ok w hg m x t hop k e K ht R hz zd zp hzd b n D hm h1 kv _ hx hkey fun v ps hv => ?_
  rw [h4.2] at hv
  rw [hV v ps hv, h4.1]
  exact hK
end
/-- Texts as keys. -/
def keyS (s : ByteArray) : Lit := .string s.data.toList
theorem keyS_inj (x y : ByteArray) (h : keyS x = keyS y) : x = y := by
  unfold keyS at h
  injection h with h
  cases x
  cases y
  congr 1
  exact Array.toList_inj.1 h
theorem keyS_lit (x : ByteArray) : WideAt.IsKeyLit (keyS x) := trivial
/-- How a pointer reads: by its block. -/
def ptrR : Value → Option (DataW Unit × List MemPlace)
  | .pointer none => some (.nil, [])
  | .pointer (some ⟨g, 0, none⟩) => some (.lit (.int .i64 (g : Int)), [])
  | _ => none
def ptrV (g : Nat) : DataW Unit := .lit (.int .i64 (g : Int))
theorem ptrR_some (g : Nat) : ptrR (.pointer (some ⟨g, 0, none⟩)) = some (ptrV g, []) := rfl
theorem ptrR_hit (g : Nat) : ∀ v ps, ptrR v = some (ptrV g, ps) → v = .pointer (some ⟨g, 0, none⟩) := by
  intro v ps h
  unfold ptrR at h
  split at h
  · simp [ptrV] at h
  · simp [ptrV] at h
    rw [show _ = g from Int.ofNat.inj h.1]
  · cases h
theorem ptrR_miss : ∀ v ps, ptrR v = some (.nil, ps) → v = .pointer none := by
  intro v ps h
  unfold ptrR at h
  split at h
  · rfl
  · simp at h
  · cases h
end Go.Proofs.YtijbdinemjiepaaDoor
