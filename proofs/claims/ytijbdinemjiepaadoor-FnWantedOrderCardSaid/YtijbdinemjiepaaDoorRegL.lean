/- A region that draws its order, whose last operation (number l) writes a cell that is loaded in it: a condition S on the world that holds behind every operation but that one. The law beside the library's own for a condition that holds behind every operation. -/
import Derived.Deep.RegionHeld3
import Derived.Test.YtijbdinemjiepaaDoorApp
namespace Go.Proofs.YtijbdinemjiepaaDoor
open Go.RowKit

section
variable {P : Program} {ops : Array Oper} {Q : Exit → Act → World → Prop} {md : Region.Mode} {S : World → Prop} {l : Nat}
/-- Whatever order is picked from here on, and S holds behind every operation but number l. -/
def wpAnyL (P : Program) (md : Region.Mode) (ops : Array Oper) (Q : Exit → Act → World → Prop) (S : World → Prop) (l : Nat) : Nat → Array Bool → Act → World → Prop
  | 0, listed, a, w => Region.ready md ops listed = [] ∧ Q .normal a w
  | fuel + 1, listed, a, w =>
    (Region.ready md ops listed = [] → Q .normal a w) ∧
    ∀ i ∈ Region.ready md ops listed, wpOp P ops Q i (fun a' w' => (i ≠ l → S w') ∧ wpAnyL P md ops Q S l fuel (listed.setIfInBounds i true) a' w') a w
theorem wpAny_of_L : ∀ (fuel : Nat) (listed : Array Bool) (a : Act) (w : World), wpAnyL P md ops Q S l fuel listed a w → wpAny P md ops Q fuel listed a w
  | 0, _, _, _, h => h
  | fuel + 1, _, _, _, h => ⟨h.1, fun i hi => wpOp_mono (fun a' w' h' => wpAny_of_L fuel _ a' w' h'.2) (h.2 i hi)⟩
/-- An operation for which number l waits may be taken first, if it yields its value in every world that meets S. -/
theorem wpAnyL_first {i : Nat} {oi ol : Oper} {v : Value} (hi : ops[i]? = some oi) (hsel : ∀ (j : Nat) (o : Oper) cs b, ops[j]? = some o → o.op ≠ .select cs b)
    (hQ : ∀ c a w, Q (.panic c) (a.put oi.dst v) w → Q (.panic c) a w) (hol : ops[l]? = some ol) (hdep : ∃ e ∈ ol.after, Region.binds md e = true ∧ e.on = i) :
    ∀ (fuel : Nat) (listed : Array Bool) (a : Act) (w : World),
      (∀ j oj, ops[j]? = some oj → j ≠ i → listed.getD j true = false → (∀ e ∈ oj.after, Region.binds md e = true → e.on ≠ i) → oi.apart ops oj = true) →
      i ∈ Region.ready md ops listed → YieldsIf P ops S oi v a → S w →
      wpAnyL P md ops Q S l fuel (listed.setIfInBounds i true) (a.put oi.dst v) w → wpAnyL P md ops Q S l (fuel + 1) listed a w := by
  intro fuel
  have hwait : ∀ (listed : Array Bool) (j : Nat), i ∈ Region.ready md ops listed → j ∈ Region.ready md ops listed → ∀ oj, ops[j]? = some oj → ∀ e ∈ oj.after, Region.binds md e = true → e.on ≠ i := by
    intro listed j hri hrj oj hoj e he hb heq
    obtain ⟨_, oj', hoj', hall⟩ := mem_ready.1 hrj
    rw [hoj] at hoj'
    injection hoj' with hoj'
    subst hoj'
    have h1 := hall e he hb
    have h0 := (mem_ready.1 hri).1
    rw [heq] at h1
    rcases Nat.lt_or_ge i listed.size with h' | h'
    · simp [h'] at h0 h1; rw [h0] at h1; cases h1
    · simp [Array.getElem?_eq_none h'] at h1
  have hjl : ∀ (listed : Array Bool) (j : Nat), i ∈ Region.ready md ops listed → j ∈ Region.ready md ops listed → j ≠ l := by
    rintro listed j hri hrj rfl
    obtain ⟨e, he, hb, hon⟩ := hdep
    exact hwait listed _ hri hrj ol hol e he hb hon
  induction fuel with
  | zero =>
    intro listed a w _ hr hy hS H
    refine ⟨fun h => (by rw [h] at hr; cases hr), fun j hj => ?_⟩
    by_cases hji : j = i
    · subst hji; exact hy.wpOp hi hS ⟨fun _ => hS, H⟩
    · have := ready_mono hj hji
      rw [H.1] at this
      cases this
  | succ fuel ih =>
    intro listed a w hfree hr hy hS H
    refine ⟨fun h => (by rw [h] at hr; cases hr), fun j hj => ?_⟩
    by_cases hji : j = i
    · subst hji; exact hy.wpOp hi hS ⟨fun _ => hS, H⟩
    · have h1 := H.2 j (ready_mono hj hji)
      obtain ⟨hjun, oj, hoj, _⟩ := mem_ready.1 hj
      have hnl := hjl listed j hr hj
      have h2 := wpOp_putIf hoj (hfree j oj hoj hji hjun (hwait listed j hr hj oj hoj)) (fun cs b => hsel i oi cs b hi) (fun cs b => hsel j oj cs b hoj) hQ hy h1
      have hfree' : ∀ k ok, ops[k]? = some ok → k ≠ i → (listed.setIfInBounds j true).getD k true = false →
          (∀ e ∈ ok.after, Region.binds md e = true → e.on ≠ i) → oi.apart ops ok = true := fun k ok hk hki hun hno => by
        refine hfree k ok hk hki ?_ hno
        by_cases hjk : j = k
        · subst hjk; exact hjun
        · rw [getD_set_ne true hjk] at hun; exact hun
      refine wpOp_mono (fun a' w' h3 => ⟨fun _ => h3.2.1 hnl, ih (listed.setIfInBounds j true) a' w' hfree' (ready_mono hr (Ne.symm hji)) h3.1 (h3.2.1 hnl) ?_⟩) h2
      rw [Array.setIfInBounds_comm _ _ hji]
      exact h3.2.2
/-- Does number l wait for number i? -/
def waitsFor (md : Region.Mode) (ops : Array Oper) (l i : Nat) : Bool := match ops[l]? with
  | some o => o.after.any fun e => Region.binds md e && e.on == i
  | none => false
theorem waitsFor_spec {i : Nat} (h : waitsFor md ops l i = true) : ∃ ol, ops[l]? = some ol ∧ ∃ e ∈ ol.after, Region.binds md e = true ∧ e.on = i := by
  unfold waitsFor at h
  split at h
  · rename_i o ho
    refine ⟨o, ho, ?_⟩
    rw [Array.any_eq_true] at h
    obtain ⟨k, hk, h⟩ := h
    simp at h
    exact ⟨o.after[k], Array.getElem_mem hk, h.1, h.2⟩
  · cases h
theorem wpAnyL_take {i : Nat} {oi : Oper} {v : Value} {fuel : Nat} {listed : Array Bool} {a : Act} {w : World} (hi : ops[i]? = some oi)
    (hs : Region.noSelect ops = true) (hf : Region.free md ops listed i = true) (hr : (Region.ready md ops listed).contains i = true) (hl : waitsFor md ops l i = true)
    (hQ : ∀ c a w, Q (.panic c) (a.put oi.dst v) w → Q (.panic c) a w) (hy : YieldsIf P ops S oi v a) (hS : S w)
    (h : wpAnyL P md ops Q S l fuel (listed.setIfInBounds i true) (a.put oi.dst v) w) : wpAnyL P md ops Q S l (fuel + 1) listed a w := by
  obtain ⟨ol, hol, hdep⟩ := waitsFor_spec hl
  exact wpAnyL_first hi (Region.noSelect_spec hs) hQ hol hdep fuel listed a w (Region.free_spec hi hf) (by simpa using hr) hy hS h
/-- One operation alone may come up. -/
theorem wpAnyL_one {i : Nat} {o : Oper} {fuel : Nat} {listed : Array Bool} {a : Act} {w : World} (hr : Region.ready md ops listed = [i]) (ho : ops[i]? = some o) (hw : Region.wanted o (yielded ops a.tmps) = true)
    (h : ∀ K : Act → World → Prop, Shut (∀ a w, (i ≠ l → S w) → ((i ≠ l → S w) → wpAnyL P md ops Q S l fuel (listed.setIfInBounds i true) a w) → K a w) → Oper.wp P o a w K Q) : wpAnyL P md ops Q S l (fuel + 1) listed a w := by
  refine ⟨fun h0 => (by rw [hr] at h0; cases h0), fun j hj => ?_⟩
  rw [hr] at hj
  obtain rfl : j = i := by simpa using hj
  unfold wpOp
  simp only [ho, hw, if_true]
  exact .inl (h _ (fun a w hS hW => ⟨hS, hW hS⟩))
theorem wpAnyL_done {fuel : Nat} {listed : Array Bool} {a : Act} {w : World} (hr : Region.ready md ops listed = []) (h : Q .normal a w) : wpAnyL P md ops Q S l fuel listed a w := by
  cases fuel with
  | zero => exact ⟨hr, h⟩
  | succ n => exact ⟨fun _ => h, fun i hi => by rw [hr] at hi; cases hi⟩
theorem wp_region_L {id : Nat} {a : Act} {w : World} (l : Nat) (S : World → Prop) (hm : P.follows .mixedOrders = true) (hS : S w.drew)
    (h : S w.drew → wpAnyL P .any ops Q S l ops.size (Array.replicate ops.size false) a w.drew) : (Code.region id ops true).wp P Q a w :=
  wp_region_any hm (wpAny_of_L _ _ _ _ (h hS))
end
end Go.Proofs.YtijbdinemjiepaaDoor
