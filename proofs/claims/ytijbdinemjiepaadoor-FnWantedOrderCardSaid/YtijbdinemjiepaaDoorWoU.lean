/- What steps of a want list tell, in memory. -/
import Derived.Deep.CutRange
import Derived.Test.YtijbdinemjiepaaDoorWoT
import Derived.Test.YtijbdinemjiepaaDoorFv
namespace Go.Proofs.YtijbdinemjiepaaDoor
open Go.RowKit

def wntF (q : Wnt) : List FV := [.lit (.int .i64 (q.kind : Nat)), .bytes q.ent.cid, .lit (.int .i32 q.ent.prio), .lit (.bool q.ent.hv)]
theorem flat_at {α : Type} (F : α → List FV) (s : Nat) (hF : ∀ x, (F x).length = s) : ∀ (l : List α) (j i : Nat) (x : α), l[j]? = some x → i < s → (l.flatMap F)[j * s + i]? = (F x)[i]?
  | [], _, _, _, h, _ => by simp at h
  | y :: t, 0, i, x, h, hi => by
    have h : y = x := by simpa using h
    subst h
    rw [List.flatMap_cons, Nat.zero_mul, Nat.zero_add, List.getElem?_append_left (by rw [hF]; exact hi)]
  | y :: t, j + 1, i, x, h, hi => by
    have h2 := flat_at F s hF t j i x (by simpa using h) hi
    have e : (j + 1) * s + i - (F y).length = j * s + i := by rw [hF, Nat.add_mul]; omega
    rw [List.flatMap_cons, List.getElem?_append_right (by rw [hF, Nat.add_mul]; omega), e]
    exact h2
/-- A field of a record of a row. -/
theorem RowF.field {α : Type} {F : α → List FV} {s : Nat} (hF : ∀ x, (F x).length = s) (hs : 0 < s) {w W : World} {l : List α} {A : Option Addr} {n c : Nat} (h : RowF w s n (l.flatMap F) (.slice A n c)) (hW : Below w.heap.size w W) {j : Nat} {x : α} (hj : l[j]? = some x) (hn : l.length = n) :
    ∃ b o, A = some ⟨b, o, none⟩ ∧ b < w.heap.size ∧ ∀ i f, (F x)[i]? = some f → ∃ u, W.cell? ⟨b, o + j * s + i, none⟩ = some u ∧ FV.In w Bare f u := by
  have hjn : j < n := by rw [← hn]; exact (List.getElem?_eq_some_iff.1 hj).1
  obtain ⟨b, o, c', e, _, hb, _, hc⟩ := h.cells hs (Below.refl _ _) hjn
  injection e with e1 e2 e3
  subst e1
  refine ⟨b, o, rfl, hb, fun i f hf => ?_⟩
  have hi : i < s := by rw [← hF x]; exact (List.getElem?_eq_some_iff.1 hf).1
  obtain ⟨f', u, h1, h2, h3⟩ := hc i hi
  rw [flat_at F s hF l j i x hj hi, hf] at h1
  injection h1 with h1
  subst h1
  exact ⟨u, (hW.cell (p := ⟨b, o + j * s + i, none⟩) hb).trans h2, h3⟩
/-- A step of a row of steps, as a later world has it. -/
theorem want_at {w W : World} {ws : List Wnt} {A : Option Addr} {n c : Nat} (h : RowF w 4 n (ws.flatMap wntF) (.slice A n c)) (hn : ws.length = n) (hW : Below w.heap.size w W) {j : Nat} (hj : j < n) :
    ∃ q b o A1 c1, ws[j]? = some q ∧ A = some ⟨b, o, none⟩ ∧ b < W.heap.size ∧ W.cell? ⟨b, o + j * 4, none⟩ = some (.int .i64 (q.kind : Nat)) ∧ W.cell? ⟨b, o + j * 4 + 1, none⟩ = some (.slice A1 q.ent.cid.length c1) ∧ W.cell? ⟨b, o + j * 4 + 2, none⟩ = some (.int .i32 q.ent.prio) ∧ W.cell? ⟨b, o + j * 4 + 3, none⟩ = some (.bool q.ent.hv) ∧ q.ent.cid.length ≤ c1 ∧ Reads W W.heap.size 1 A1 q.ent.cid.length (u8s q.ent.cid) := by
  have hq : ws[j]? = some ws[j] := List.getElem?_eq_getElem (by omega)
  obtain ⟨b, o, ha, hb, hc⟩ := h.field (F := wntF) (fun _ => rfl) (by omega) hW hq hn
  obtain ⟨_, k0, rfl, _⟩ := hc 0 _ rfl
  obtain ⟨u1, k1, f1⟩ := hc 1 _ rfl
  obtain ⟨_, k2, rfl, _⟩ := hc 2 _ rfl
  obtain ⟨_, k3, rfl, _⟩ := hc 3 _ rfl
  obtain ⟨A1, c1, rfl, hc1, hr1, _⟩ := f1
  exact ⟨_, b, o, A1, c1, hq, ha, Nat.lt_of_lt_of_le hb hW.size, k0, k1, k2, k3, hc1, ron hr1 hW⟩
/-- Bytes that the package reads as an identifier, which is they. -/
structure Castable (l : List UInt8) : Prop where
  cast : ∀ (b o c B : Nat) (W : World), Reads W B 1 (some ⟨b, o, none⟩) l.length (u8s l) → l.length ≤ c → B ≤ W.heap.size → Calls Tryd.prog 38 #[.slice (some ⟨b, o, none⟩) l.length c] W fun e w' => e = .returned (.tuple #[.agg #[.string ⟨l.toArray⟩], .nilIface]) ∧ Below W.heap.size W w'
  pos : 0 < l.length
  len : l.length ≤ 1000
theorem castable_id (n : Nat) : Castable (identB n) :=
  ⟨fun b o c B W h hc hB => castId_any n b o c B W h hc hB, by have := identB_length n; omega, by have := identB_length n; omega⟩
/-- Entries, each with bytes of the call's own. -/
def ER (W : World) (B : Nat) : List Enr → List Value → Prop
  | [], zs => zs = []
  | e :: t, zs => ∃ v ys, zs = v :: .int .i32 e.prio :: .bool e.hv :: ys ∧ W.ownsRow B 5 1 v e.cid.length (u8s e.cid) ∧ ER W B t ys
/-- What steps tell. -/
def TR (W : World) (B : Nat) : List Tld → List Value → Prop
  | [], zs => zs = []
  | t :: r, zs => ∃ v1 v2 es ys, zs = .bool t.ok :: v1 :: .int .i32 t.ent.prio :: .bool t.ent.hv :: .int .i64 (t.len : Nat) :: v2 :: ys ∧ W.ownsRow B 5 1 v1 t.ent.cid.length (u8s t.ent.cid) ∧ W.ownsRow B 52 3 v2 t.all.length es ∧ ER W B t.all es ∧ TR W B r ys
/-- The blocks X are none of this element type. -/
def Away (W : World) (X : Nat → Prop) (e : TypeId) : Prop := ∀ k, X k → ∀ cur, W.heap[k]? ≠ some (.cells cur e (0, 0))
section
variable {W W' : World} {X : Nat → Prop} {B B' : Nat}
theorem Turn.own_away {base n size : Nat} {e : TypeId} {v : Value} {xs : List Value} (h : Turn X W W') (ho : W.ownsRow base e size v n xs) (ha : Away W X e) : W'.ownsRow base e size v n xs := by
  refine h.own ho fun g hg hx => ?_
  rcases ho.2 with ⟨rfl, _⟩ | ⟨g', cap, cur, rfl, _, hh, _⟩
  · simp [Value.ownBlock] at hg
  · have : g' = g := by simpa [Value.ownBlock] using hg
    subst this
    exact ha _ hx cur hh
theorem ER.turn (h : Turn X W W') (ha : Away W X 5) : ∀ {l : List Enr} {zs : List Value}, ER W B l zs → ER W' B l zs
  | [], _, h => h
  | _ :: _, _, ⟨v, ys, e1, h1, h2⟩ => ⟨v, ys, e1, h.own_away h1 ha, ER.turn h ha h2⟩
theorem TR.turn (h : Turn X W W') (ha : Away W X 5) (hb : Away W X 52) : ∀ {l : List Tld} {zs : List Value}, TR W B l zs → TR W' B l zs
  | [], _, h => h
  | _ :: _, _, ⟨v1, v2, es, ys, e1, h1, h2, h3, h4⟩ => ⟨v1, v2, es, ys, e1, h.own_away h1 ha, h.own_away h2 hb, h3.turn h ha, TR.turn h ha hb h4⟩
theorem ER.more (hB : B' ≤ B) : ∀ {l : List Enr} {zs : List Value}, ER W B l zs → ER W B' l zs
  | [], _, h => h
  | _ :: _, _, ⟨v, ys, e1, h1, h2⟩ => ⟨v, ys, e1, own_more h1 hB, ER.more hB h2⟩
theorem ER.length : ∀ {l : List Enr} {zs : List Value}, ER W B l zs → zs.length = l.length * 3
  | [], zs, h => by
    have h : zs = [] := h
    subst h
    rfl
  | e :: t, zs, ⟨v, ys, e1, _, h2⟩ => by
    have := ER.length h2
    rw [e1]
    simp only [List.length_cons]
    omega
theorem ER.snoc {e : Enr} {v : Value} (hv : W.ownsRow B 5 1 v e.cid.length (u8s e.cid)) : ∀ {l : List Enr} {zs : List Value}, ER W B l zs → ER W B (l ++ [e]) (zs ++ [v, .int .i32 e.prio, .bool e.hv])
  | [], zs, h => by
    have h : zs = [] := h
    subst h
    exact ⟨v, [], rfl, hv, rfl⟩
  | _ :: _, zs, ⟨v', ys, e1, h1, h2⟩ => ⟨v', ys ++ _, by rw [e1]; rfl, h1, ER.snoc hv h2⟩
theorem TR.snoc {t : Tld} {v1 v2 : Value} {es : List Value} (h1 : W.ownsRow B 5 1 v1 t.ent.cid.length (u8s t.ent.cid)) (h2 : W.ownsRow B 52 3 v2 t.all.length es) (h3 : ER W B t.all es) : ∀ {l : List Tld} {zs : List Value}, TR W B l zs → TR W B (l ++ [t]) (zs ++ [.bool t.ok, v1, .int .i32 t.ent.prio, .bool t.ent.hv, .int .i64 (t.len : Nat), v2])
  | [], zs, h => by
    have h : zs = [] := h
    subst h
    exact ⟨v1, v2, es, [], rfl, h1, h2, h3, rfl⟩
  | _ :: _, zs, ⟨u1, u2, fs, ys, e1, k1, k2, k3, k4⟩ => ⟨u1, u2, fs, ys ++ _, by rw [e1]; rfl, k1, k2, k3, TR.snoc h1 h2 h3 k4⟩
theorem away_sm {s m n c : Nat} {f : WMap} (h : WS W s m n f c) {e : TypeId} (hne : 139 ≠ e) : Away W (SM s m) e := by
  intro k hk cur hh
  rcases hk with rfl | rfl
  · have h1 := h.sb
    unfold Blk at h1
    rw [hh] at h1
    injection h1 with h1
    injection h1 with h1 h2
    exact hne h2.symm
  · obtain ⟨D, ⟨es, clock, hb, _⟩, _⟩ := h.mp.ex
    rw [hh] at hb
    cases hb
theorem away_own {base n size : Nat} {e T : TypeId} {v : Value} {xs : List Value} (h : W.ownsRow base e size v n xs) (hne : e ≠ T) : Away W (fun k => v.ownBlock = some k) T := by
  intro k hk cur hh
  rcases h.2 with ⟨rfl, _⟩ | ⟨g', cap, cur', rfl, _, h1, _⟩
  · simp [Value.ownBlock] at hk
  · have : g' = k := by simpa [Value.ownBlock] using hk
    subst this
    rw [hh] at h1
    injection h1 with h1
    injection h1 with _ h2
    exact hne h2.symm
end
end Go.Proofs.YtijbdinemjiepaaDoor
