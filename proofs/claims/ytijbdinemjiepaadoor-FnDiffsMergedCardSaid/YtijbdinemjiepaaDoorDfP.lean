/- Merging of changes: the plain law. -/
import Derived.Test.YtijbdinemjiepaaDoorMem
namespace Go.Proofs.YtijbdinemjiepaaDoor

section
variable {α β : Type} [DecidableEq β] (p : α → β)
/-- The last one with a path. -/
def lastOf (b : List α) (x : β) : Option α := b.foldl (fun k y => if p y = x then some y else k) none
/-- Is there a conflict of the path? -/
def takenB (c : List (α × α)) (x : β) : Bool := c.any fun q => decide (p q.1 = x)
def stepS (b : List α) (s : List α × List (α × α)) (x : α) : List α × List (α × α) :=
  match lastOf p b (p x) with
  | none => (s.1 ++ [x], s.2)
  | some y => if takenB p s.2 (p x) then (s.1 ++ [x], s.2) else (s.1, s.2 ++ [(x, y)])
/-- The reference's merge. -/
def specM (a b : List α) : List α × List (α × α) :=
  let s := a.foldl (stepS p b) ([], [])
  (b.foldl (fun o y => if takenB p s.2 (p y) then o else o ++ [y]) s.1, s.2)
/-- The package's: a map of the paths. -/
def putM (f : β → Option α) (y : α) : β → Option α := fun x => if p y = x then some y else f x
def delM (f : β → Option α) (k : β) : β → Option α := fun x => if k = x then none else f x
def mapOf (b : List α) : β → Option α := b.foldl (putM p) fun _ => none
structure StI (α β : Type) where
  f : β → Option α
  out : List α
  con : List (α × α)
def stepI (s : StI α β) (x : α) : StI α β :=
  match s.f (p x) with
  | none => ⟨delM s.f (p x), s.out ++ [x], s.con⟩
  | some y => ⟨delM s.f (p x), s.out, s.con ++ [(x, y)]⟩
def implM (a b : List α) : List α × List (α × α) :=
  let s := a.foldl (stepI p) ⟨mapOf p b, [], []⟩
  (b.foldl (fun o y => if (s.f (p y)).isSome then o ++ [y] else o) s.out, s.con)

theorem mapOf_last (b : List α) : ∀ (f : β → Option α) (x : β), b.foldl (putM p) f x = b.foldl (fun k y => if p y = x then some y else k) (f x) := by
  induction b with
  | nil => intro f x; rfl
  | cons y t ih => intro f x; rw [List.foldl_cons, List.foldl_cons, ih]; rfl
theorem last_some (b : List α) (x : β) : ∀ (k : Option α), (b.foldl (fun k y => if p y = x then some y else k) k).isSome = (k.isSome || b.any fun y => decide (p y = x)) := by
  induction b with
  | nil => intro k; simp
  | cons y t ih =>
    intro k
    rw [List.foldl_cons, ih, List.any_cons]
    by_cases h : p y = x <;> simp [h]
theorem taken_snoc (c : List (α × α)) (q : α × α) (x : β) : takenB p (c ++ [q]) x = (takenB p c x || decide (p q.1 = x)) := by simp [takenB]
/-- What the map holds while the first list is gone through. -/
def Holds (b : List α) (s : StI α β) (c : List α × List (α × α)) : Prop := s.out = c.1 ∧ s.con = c.2 ∧ ∀ x, s.f x = if takenB p c.2 x then none else lastOf p b x
theorem holds_step (b : List α) (s : StI α β) (c : List α × List (α × α)) (h : Holds p b s c) (x : α) : Holds p b (stepI p s x) (stepS p b c x) := by
  obtain ⟨h1, h2, h3⟩ := h
  have hx := h3 (p x)
  unfold stepI stepS
  cases hl : lastOf p b (p x) with
  | none =>
    have hf : s.f (p x) = none := by rw [hx, hl]; simp
    rw [hf]
    refine ⟨by simp [h1], h2, fun z => ?_⟩
    show delM s.f (p x) z = _
    unfold delM
    by_cases hz : p x = z
    · rw [if_pos hz, ← hz, hl]; simp
    · rw [if_neg hz, h3]
  | some y =>
    rw [hl] at hx
    cases ht : takenB p c.2 (p x) with
    | true =>
      have hf : s.f (p x) = none := by rw [hx, ht]; simp
      rw [hf]
      refine ⟨by simp [h1], by simpa using h2, fun z => ?_⟩
      show delM s.f (p x) z = _
      unfold delM
      by_cases hz : p x = z
      · rw [if_pos hz, ← hz]; simp [ht]
      · rw [if_neg hz, h3]; simp
    | false =>
      have hf : s.f (p x) = some y := by rw [hx, ht]; simp
      rw [hf]
      refine ⟨by simpa using h1, by simp [h2], fun z => ?_⟩
      show delM s.f (p x) z = _
      unfold delM
      have hs : takenB p (c.2 ++ [(x, y)]) z = (takenB p c.2 z || decide (p x = z)) := taken_snoc p c.2 (x, y) z
      simp only [Bool.false_eq_true, if_false]
      rw [hs]
      by_cases hz : p x = z
      · simp [hz]
      · rw [if_neg hz, h3]; simp [hz]
theorem holds_all (b : List α) (a : List α) : ∀ (s : StI α β) (c : List α × List (α × α)), Holds p b s c → Holds p b (a.foldl (stepI p) s) (a.foldl (stepS p b) c) := by
  induction a with
  | nil => intro s c h; exact h
  | cons x t ih => intro s c h; exact ih _ _ (holds_step p b s c h x)
theorem impl_spec (a b : List α) : implM p a b = specM p a b := by
  have h := holds_all p b a ⟨mapOf p b, [], []⟩ ([], []) ⟨rfl, rfl, fun x => by simp [takenB, mapOf, mapOf_last, lastOf]⟩
  obtain ⟨h1, h2, h3⟩ := h
  unfold implM specM
  have e : ∀ l : List α, (∀ y ∈ l, y ∈ b) → ∀ o, l.foldl (fun o y => if ((a.foldl (stepI p) ⟨mapOf p b, [], []⟩).f (p y)).isSome then o ++ [y] else o) o = l.foldl (fun o y => if takenB p (a.foldl (stepS p b) ([], [])).2 (p y) then o else o ++ [y]) o := by
    intro l
    induction l with
    | nil => intro _ o; rfl
    | cons y t ih =>
      intro hl o
      rw [List.foldl_cons, List.foldl_cons, ih (fun z hz => hl z (List.mem_cons_of_mem _ hz))]
      congr 1
      rw [h3]
      have hy : (lastOf p b (p y)).isSome = true := by
        rw [lastOf, last_some]
        simp only [Option.isSome_none, Bool.false_or, List.any_eq_true, decide_eq_true_eq]
        exact ⟨y, hl y List.mem_cons_self, rfl⟩
      cases takenB p (a.foldl (stepS p b) ([], [])).2 (p y) with
      | true => simp
      | false => simp [hy]
  show (_, _) = (_, _)
  rw [e b (fun _ h => h), h1, h2]
end
section
variable {α γ β : Type} [DecidableEq β] (p : γ → β) (v : α → γ)
def pairM (q : α × α) : γ × γ := (v q.1, v q.2)
theorem last_map (b : List α) (x : β) : ∀ k : Option α, (b.map v).foldl (fun k y => if p y = x then some y else k) (k.map v) = (b.foldl (fun k y => if p (v y) = x then some y else k) k).map v := by
  induction b with
  | nil => intro k; rfl
  | cons y t ih =>
    intro k
    rw [List.map_cons, List.foldl_cons, List.foldl_cons, ← ih]
    congr 1
    split <;> rfl
theorem lastOf_map (b : List α) (x : β) : lastOf p (b.map v) x = (lastOf (fun y => p (v y)) b x).map v := last_map p v b x none
theorem taken_map (c : List (α × α)) (x : β) : takenB p (c.map (pairM v)) x = takenB (fun y => p (v y)) c x := by
  simp [takenB, pairM, Function.comp_def]
  rfl
theorem stepS_map (b : List α) (s : List α × List (α × α)) (x : α) : stepS p (b.map v) (s.1.map v, s.2.map (pairM v)) (v x) = ((stepS (fun y => p (v y)) b s x).1.map v, (stepS (fun y => p (v y)) b s x).2.map (pairM v)) := by
  unfold stepS
  rw [lastOf_map]
  cases lastOf (fun y => p (v y)) b (p (v x)) with
  | none => simp
  | some y =>
    simp only [Option.map_some, taken_map]
    split <;> simp [pairM]
theorem fold_map (b : List α) (a : List α) : ∀ s : List α × List (α × α), (a.map v).foldl (stepS p (b.map v)) (s.1.map v, s.2.map (pairM v)) = ((a.foldl (stepS (fun y => p (v y)) b) s).1.map v, (a.foldl (stepS (fun y => p (v y)) b) s).2.map (pairM v)) := by
  induction a with
  | nil => intro s; rfl
  | cons x t ih => intro s; rw [List.map_cons, List.foldl_cons, stepS_map, ih, List.foldl_cons]
theorem specM_map (a b : List α) : specM p (a.map v) (b.map v) = ((specM (fun y => p (v y)) a b).1.map v, (specM (fun y => p (v y)) a b).2.map (pairM v)) := by
  have h := fold_map p v b a ([], [])
  unfold specM
  simp only [List.map_nil] at h
  rw [h]
  simp only [taken_map]
  have e : ∀ (c : List (α × α)) (l : List α) (o : List α), (l.map v).foldl (fun o y => if takenB (fun y => p (v y)) c (p y) then o else o ++ [y]) (o.map v) = (l.foldl (fun o y => if takenB (fun y => p (v y)) c (p (v y)) then o else o ++ [y]) o).map v := by
    intro c l
    induction l with
    | nil => intro o; rfl
    | cons y t ih =>
      intro o
      rw [List.map_cons, List.foldl_cons, List.foldl_cons, ← ih]
      congr 1
      split <;> simp
  rw [e]
/-- The package's merge of things, each of which tells a value, is the reference's merge of the values. -/
theorem merge_law (a b : List α) : specM p (a.map v) (b.map v) = ((implM (fun y => p (v y)) a b).1.map v, (implM (fun y => p (v y)) a b).2.map (pairM v)) := by
  rw [impl_spec, specM_map]
end
end Go.Proofs.YtijbdinemjiepaaDoor
