/- The map of a want list: identifiers to entries, with how many there are. -/
import Derived.DeepKeys3
import Derived.Test.YtijbdinemjiepaaDoorWoP
import Derived.Test.YtijbdinemjiepaaDoorApp
import Derived.Test.YtijbdinemjiepaaDoorStd
namespace Go.Proofs.YtijbdinemjiepaaDoor
open Go.RowKit

/-- An identifier as a key. -/
def keyC (x : List UInt8) : Lit := .string (bytesBE 8 x.length ++ x)
theorem bytesLE_length : ∀ (k n : Nat), (bytesLE k n).length = k
  | 0, _ => rfl
  | k + 1, n => by show (_ :: bytesLE k (n / 256)).length = _; rw [List.length_cons, bytesLE_length k]
theorem bytesBE_length (k n : Nat) : (bytesBE k n).length = k := by unfold bytesBE; rw [List.length_reverse, bytesLE_length]
theorem keyC_inj (x y : List UInt8) (h : keyC x = keyC y) : x = y := by
  unfold keyC at h
  injection h with h
  exact List.append_inj_right h (by rw [bytesBE_length, bytesBE_length])
theorem keyC_lit (x : List UInt8) : WideAt.IsKeyLit (keyC x) := trivial
theorem lawC : Maps.Keyed Tryd.prog 72 := Maps.Keyed.of_law (deep_law (m := 2) (by omega) (by kernel_rfl) (by kernel_rfl) (by kernel_rfl))
def cidV (x : List UInt8) : Value := .agg #[.string ⟨x.toArray⟩]
theorem keyC_of (x : List UInt8) (h : x.length ≤ 1000) : keyOf Tryd.prog 72 (.agg #[.string ⟨x.toArray⟩]) = some (keyC x) := by
  have hs : (⟨x.toArray⟩ : ByteArray).size ≤ maxLen := by
    show x.toArray.size ≤ _
    rw [List.size_toArray]
    unfold maxLen
    omega
  have h1 : Tryd.prog.keyType 72 = true := by kernel_rfl
  have h2 : (Value.agg #[.string ⟨x.toArray⟩]).formed Tryd.prog 72 = true := by kernel_rfl
  have h3 : Tryd.prog.keyLits (Tryd.prog.types.size + 1) 72 [.string ⟨x.toArray⟩] = some [.string x] := by
    have h0 : Tryd.prog.types.size = (Tryd.prog.types.size - 1) + 1 := by
      have : Nat.ble 1 Tryd.prog.types.size = true := by kernel_rfl
      have := Nat.le_of_ble_eq_true this
      omega
    rw [h0]
    have hu := Tryd.underlying72
    have hv := Tryd.underlying9
    have e1 : Tryd.prog.cellsOf 72 = 1 := by kernel_rfl
    have e2 : Tryd.prog.cellsOf 9 = 1 := by kernel_rfl
    generalize Tryd.prog.types.size - 1 = d
    simp [Program.keyLits, hu, hv, e1, e2, hs]
  unfold keyOf
  rw [Tryd.underlying72]
  simp only [h1, h2, Bool.and_self, if_true]
  show Option.map _ (Tryd.prog.keyLits (Tryd.prog.types.size + 1) 72 [.string ⟨x.toArray⟩]) = _
  rw [h3]
  simp [keyC, keyBytes, Lit.keyBytes]
def wty (h : Bool) : Int := if h then 1 else 0
def entV (e : Enr) : Value := .agg #[.string ⟨e.cid.toArray⟩, .int .i32 e.prio, .int .i32 (wty e.hv)]
def entD (e : Enr) : DataW Unit := .agg [.lit (.string e.cid), .lit (.int .i32 e.prio), .lit (.int .i32 (wty e.hv))]
/-- How an entry reads. -/
def entR : Value → Option (DataW Unit × List MemPlace)
  | .agg ⟨[.string s, .int .i32 p, .int .i32 t]⟩ => some (.agg [.lit (.string s.data.toList), .lit (.int .i32 p), .lit (.int .i32 t)], [])
  | _ => none
theorem entR_some (e : Enr) : entR (entV e) = some (entD e, []) := rfl
theorem entR_hit (e : Enr) : ∀ v ps, entR v = some (entD e, ps) → v = entV e := by
  intro v ps h
  unfold entR at h
  split at h
  · rename_i s p t
    simp only [entD, Option.some.injEq, Prod.mk.injEq, DataW.agg.injEq, List.cons.injEq, DataW.lit.injEq, Lit.string.injEq, Lit.int.injEq, true_and, and_true] at h
    obtain ⟨⟨h1, h2, h3⟩, -⟩ := h
    subst h2 h3
    unfold entV
    rw [← h1]
  · cases h
theorem entR_zero : entR (.agg #[.string ByteArray.empty, .int .i32 0, .int .i32 0]) = some (entD noE, []) := rfl
theorem zeroE (w : World) : (zeroValue 112).run Tryd.prog w = .ok (.agg #[.string ByteArray.empty, .int .i32 0, .int .i32 0]) w := by kernel_rfl
/-- Block m is a map of c entries that tells f. -/
structure WM (W : World) (m n : Nat) (f : WMap) (c : Nat) : Prop where
  ex : ∃ D, W.ownsMap Tryd.prog 72 entR m n D ∧ Maps.IsMap D ∧ (∀ (x : List UInt8) (z : DataW Unit), Maps.has D (keyC x) = (foundW f x).isSome ∧ D.atKey (keyC x) z = ((foundW f x).map entD).getD z) ∧ Maps.size D = c
theorem found_some {f : WMap} {x : List UInt8} : (foundW f x).isSome = (f x).isSome := by unfold foundW; cases f x <;> rfl
theorem found_put (f : WMap) (x : List UInt8) (p : Int) (h : Bool) : foundW (putF f x (p, h)) = putF (foundW f) x ⟨x, p, h⟩ := by
  funext y
  unfold foundW putF
  by_cases e : x = y
  · subst e; simp
  · simp [e]
theorem found_del (f : WMap) (x : List UInt8) : foundW (delF f x) = delF (foundW f) x := by
  funext y
  unfold foundW delF
  by_cases e : x = y
  · subst e; simp
  · simp [e]
theorem WM.made (w : World) : WM (w.alloc (.map #[] 0)) w.heap.size 0 (fun _ => none) 0 :=
  ⟨.map [], World.ownsMap_made w _ _ _, Maps.isMap_empty, fun _ z => ⟨rfl, Maps.atKey_of_not_has rfl z⟩, rfl⟩
section
variable {W W' : World} {m n c : Nat} {f : WMap}
theorem WM.of_heap (h : WM W m n f c) (hh : W'.heap[m]? = W.heap[m]?) : WM W' m n f c := by
  obtain ⟨D, ⟨es, clock, hb2, r⟩, h2⟩ := h.ex
  exact ⟨D, ⟨es, clock, hh.trans hb2, r⟩, h2⟩
theorem WM.mono (h : WM W m n f c) {k : Nat} (hk : n ≤ k) : WM W m k f c := by
  obtain ⟨D, h1, h2⟩ := h.ex
  exact ⟨D, h1.mono hk, h2⟩
theorem WM.lt (h : WM W m n f c) : m < W.heap.size := by
  obtain ⟨D, h1, h2⟩ := h.ex
  exact h1.lt
theorem WM.hit (h : WM W m n f c) {x : List UInt8} {e : Enr} (hx : foundW f x = some e) (hl : x.length ≤ 1000) : (Instr.lookup 136 (.map (some m)) (.agg #[.string ⟨x.toArray⟩]) true).run Tryd.prog W = .ok (.tuple #[.agg #[.string ⟨e.cid.toArray⟩, .int .i32 e.prio, .int .i32 (wty e.hv)], .bool true]) W := by
  obtain ⟨D, h1, h2, h3, h4⟩ := h.ex
  obtain ⟨v, ps, hrun, hv⟩ := h1.look_ok lawC Tryd.underlying136 (zeroE W) entR_zero (keyC_of x hl)
  have h5 := h3 x (entD noE)
  rw [hx] at h5
  rw [h5.2] at hv
  rw [hrun, h5.1, entR_hit e v ps hv]
  rfl
theorem WM.miss (h : WM W m n f c) {x : List UInt8} (hx : foundW f x = none) (hl : x.length ≤ 1000) : (Instr.lookup 136 (.map (some m)) (.agg #[.string ⟨x.toArray⟩]) true).run Tryd.prog W = .ok (.tuple #[.agg #[.string ⟨#[]⟩, .int .i32 0, .int .i32 0], .bool false]) W := by
  obtain ⟨D, h1, h2, h3, h4⟩ := h.ex
  obtain ⟨v, ps, hrun, hv⟩ := h1.look_ok lawC Tryd.underlying136 (zeroE W) entR_zero (keyC_of x hl)
  have h5 := h3 x (entD noE)
  rw [hx] at h5
  rw [h5.2] at hv
  rw [hrun, h5.1, entR_hit noE v ps hv]
  rfl
theorem WM.len (h : WM W m n f c) (ty : TypeId) : (Builtin.len_ #[136] ty #[.map (some m)]).run Tryd.prog W = .ok (.int .i64 (c : Nat)) W := by
  obtain ⟨D, h1, h2, h3, h4⟩ := h.ex
  rw [← h4]
  exact h1.len Tryd.underlying136 ty
theorem WM.put (h : WM W m n f c) (x : List UInt8) (hl : x.length ≤ 1000) (p : Int) (v : Bool) (hn : n ≤ 1000) : ∃ W', (Instr.mapUpdate 136 (.map (some m)) (.agg #[.string ⟨x.toArray⟩]) (.agg #[.string ⟨x.toArray⟩, .int .i32 p, .int .i32 (wty v)])).run Tryd.prog W = .ok () W' ∧ WM W' m (n + 1) (putF f x (p, v)) (if (f x).isSome then c else c + 1) ∧ W.grownBy W' (some m) := by
  obtain ⟨D, h1, h2, h3, h4⟩ := h.ex
  obtain ⟨W', hrun, r1, r2⟩ := h1.store lawC Tryd.underlying136 (by unfold maxLen; omega) (keyC_of x hl) (entR_some ⟨x, p, v⟩)
  refine ⟨W', hrun, ⟨_, r1, h2.put _ _, ?_, ?_⟩, r2.grown⟩
  · rw [found_put]
    exact FMap.tells keyC_inj keyC_lit h2 h3 x ⟨x, p, v⟩
  · rw [Maps.size_put (h1.tidy lawC), (h3 x .nil).1, found_some, h4]
theorem WM.drop (h : WM W m n f c) (x : List UInt8) (hl : x.length ≤ 1000) (ty : TypeId) : ∃ W', (Builtin.delete_ #[136, 72] ty #[.map (some m), .agg #[.string ⟨x.toArray⟩]]).run Tryd.prog W = .ok (.tuple #[]) W' ∧ WM W' m n (delF f x) (if (f x).isSome then c - 1 else c) ∧ W.grownBy W' (some m) := by
  obtain ⟨D, h1, h2, h3, h4⟩ := h.ex
  obtain ⟨W', hrun, r1, r2⟩ := h1.drop lawC Tryd.underlying136 (keyC_of x hl) ty
  refine ⟨W', hrun, ⟨_, r1, h2.del _, ?_, ?_⟩, r2.grown⟩
  · rw [found_del]
    exact FMap.drops keyC_inj h3 x
  · have hd := Maps.size_del (h1.tidy lawC) (k := keyC x)
    rw [(h3 x .nil).1, found_some, h4] at hd
    split at hd <;> simp_all <;> omega
end
end Go.Proofs.YtijbdinemjiepaaDoor
