/- Segments of a path, over lists of bytes: those of a plain path, cleaned, are those that it was joined of. Plain Lean. -/
import Derived.Lib.CleanSame
namespace Go.Proofs.Ytijbdinemjiepaa
open Go.Lib

/-- The segments of a text: what stands between the slashes, but for a first one that is empty. -/
def segs (c : List UInt8) : List (List UInt8) :=
  match Pa.els c with
  | [] :: r => r
  | l => l
def joined (l : List (List UInt8)) : List UInt8 := [47].intercalate l
/-- A plain segment. -/
structure Plain (x : List UInt8) : Prop where
  slash : 47 ∉ x
  ne : x ≠ []
  dot : x ≠ [46]
  dots : x ≠ [46, 46]
theorem els_ne (c : List UInt8) : Pa.els c ≠ [] := by
  cases c with
  | nil => simp [Pa.els]
  | cons a t =>
    unfold Pa.els
    split
    · simp
    · split <;> simp
theorem els_slash : ∀ (c : List UInt8) (x : List UInt8), x ∈ Pa.els c → 47 ∉ x
  | [], x, h => by simp [Pa.els] at h; subst h; simp
  | a :: t, x, h => by
    unfold Pa.els at h
    by_cases ha : a = 47
    · rw [if_pos ha] at h
      rcases List.mem_cons.mp h with rfl | h
      · simp
      · exact els_slash t x h
    · rw [if_neg ha] at h
      have ih := els_slash t
      generalize Pa.els t = E at h ih
      cases E with
      | nil => simp at h; subst h; simp [Ne.symm ha]
      | cons e r =>
        simp only at h
        rcases List.mem_cons.mp h with rfl | h
        · have := ih e List.mem_cons_self
          simp [Ne.symm ha, this]
        · exact ih x (List.mem_cons_of_mem _ h)
theorem els_plain (x : List UInt8) (h : 47 ∉ x) : Pa.els x = [x] := by
  induction x with
  | nil => rfl
  | cons a t ih =>
    have ha : a ≠ 47 := fun e => h (by rw [e]; exact List.mem_cons_self)
    rw [Pa.els, if_neg ha, ih fun m => h (List.mem_cons_of_mem _ m)]
theorem els_cut (x r : List UInt8) (h : 47 ∉ x) : Pa.els (x ++ 47 :: r) = x :: Pa.els r := by
  induction x with
  | nil => rw [List.nil_append, Pa.els, if_pos rfl]
  | cons a t ih =>
    have ha : a ≠ 47 := fun e => h (by rw [e]; exact List.mem_cons_self)
    rw [List.cons_append, Pa.els, if_neg ha, ih fun m => h (List.mem_cons_of_mem _ m)]
theorem joined_cons (x y : List UInt8) (l : List (List UInt8)) : joined (x :: y :: l) = x ++ 47 :: joined (y :: l) := by
  simp [joined, List.intercalate, List.intersperse]
theorem joined_one (x : List UInt8) : joined [x] = x := by simp [joined, List.intercalate, List.intersperse]
theorem els_joined : ∀ (l : List (List UInt8)), l ≠ [] → (∀ x ∈ l, 47 ∉ x) → Pa.els (joined l) = l
  | [], h, _ => absurd rfl h
  | [x], _, h => by rw [joined_one, els_plain x (h x List.mem_cons_self)]
  | x :: y :: l, _, h => by
    rw [joined_cons, els_cut x _ (h x List.mem_cons_self), els_joined (y :: l) (by simp) fun z hz => h z (List.mem_cons_of_mem _ hz)]
theorem fold_plain (ro : Bool) : ∀ (l st : List (List UInt8)), (∀ x ∈ l, Plain x) → l.foldl (Pa.cleanStep ro) st = l.reverse ++ st
  | [], st, _ => rfl
  | x :: l, st, h => by
    have hx := h x List.mem_cons_self
    have e : Pa.cleanStep ro st x = x :: st := by
      unfold Pa.cleanStep
      rw [if_neg fun h => h.elim hx.ne hx.dot, if_neg hx.dots]
    rw [List.foldl_cons, e, fold_plain ro l (x :: st) fun z hz => h z (List.mem_cons_of_mem _ hz)]
    simp
theorem joined_ne {l : List (List UInt8)} (hl : l ≠ []) (h : ∀ x ∈ l, Plain x) : joined l ≠ [] := by
  match l, hl with
  | [x], _ => rw [joined_one]; exact (h x List.mem_cons_self).ne
  | x :: y :: l, _ => rw [joined_cons]; simp
theorem joined_head {l : List (List UInt8)} (hl : l ≠ []) (h : ∀ x ∈ l, Plain x) : ((joined l).head? == some 47) = false := by
  have hh : ∀ (x r : List UInt8), Plain x → ((x ++ r).head? == some 47) = false := fun x r hx => by
    obtain ⟨a, t, rfl⟩ := List.exists_cons_of_ne_nil hx.ne
    have ha : a ≠ 47 := fun e => hx.slash (by rw [e]; exact List.mem_cons_self)
    simpa using ha
  match l, hl with
  | [x], _ =>
    rw [joined_one]
    have := hh x [] (h x List.mem_cons_self)
    rwa [List.append_nil] at this
  | x :: y :: l, _ => rw [joined_cons]; exact hh x _ (h x List.mem_cons_self)
theorem clean_joined {l : List (List UInt8)} (hl : l ≠ []) (h : ∀ x ∈ l, Plain x) : Pa.cleanEls (joined l) = joined l := by
  have e := els_joined l hl fun x hx => (h x hx).slash
  rw [Pa.cleanEls_rel _ (joined_ne hl h) (joined_head hl h), e, fold_plain false l [] h, List.append_nil, List.reverse_reverse]
  exact if_neg (joined_ne hl h)
theorem clean_rooted {l : List (List UInt8)} (hl : l ≠ []) (h : ∀ x ∈ l, Plain x) : Pa.cleanEls (47 :: joined l) = 47 :: joined l := by
  have e := els_joined l hl fun x hx => (h x hx).slash
  have e2 : Pa.els (47 :: joined l) = [] :: l := by rw [Pa.els, if_pos rfl, e]
  rw [Pa.cleanEls_abs _ (by simp) (by simp), e2, List.foldl_cons]
  have e3 : Pa.cleanStep true [] [] = [] := by unfold Pa.cleanStep; rw [if_pos (.inl rfl)]
  rw [e3, fold_plain true l [] h, List.append_nil, List.reverse_reverse]
  rfl
theorem segs_joined {l : List (List UInt8)} (hl : l ≠ []) (h : ∀ x ∈ l, Plain x) : segs (joined l) = l := by
  unfold segs
  rw [els_joined l hl fun x hx => (h x hx).slash]
  match l, hl with
  | [] :: r, _ => exact absurd rfl (h [] List.mem_cons_self).ne
  | (a :: t) :: r, _ => rfl
theorem segs_rooted {l : List (List UInt8)} (hl : l ≠ []) (h : ∀ x ∈ l, Plain x) : segs (47 :: joined l) = l := by
  unfold segs
  rw [Pa.els, if_pos rfl, els_joined l hl fun x hx => (h x hx).slash]
theorem clean_ne (s : List UInt8) : Pa.cleanEls s ≠ [] := by
  unfold Pa.cleanEls
  split
  · simp
  · simp only
    split
    · simp
    · split <;> simp_all
theorem segs_ne {c : List UInt8} (h : c ≠ []) : segs c ≠ [] := by
  unfold segs
  obtain ⟨a, t, rfl⟩ := List.exists_cons_of_ne_nil h
  unfold Pa.els
  by_cases ha : a = 47
  · rw [if_pos ha]
    exact els_ne t
  · rw [if_neg ha]
    cases Pa.els t <;> simp
theorem segs_slash (c : List UInt8) (x : List UInt8) (h : x ∈ segs c) : 47 ∉ x := by
  refine els_slash c x ?_
  unfold segs at h
  split at h
  · rename_i r e
    rw [e]
    exact List.mem_cons_of_mem _ h
  · exact h
end Go.Proofs.Ytijbdinemjiepaa
