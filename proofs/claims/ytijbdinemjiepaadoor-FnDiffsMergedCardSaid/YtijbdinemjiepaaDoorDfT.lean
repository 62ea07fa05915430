/- Merging of changes: what is merged was given. -/
import Derived.Test.YtijbdinemjiepaaDoorDfS
namespace Go.Proofs.YtijbdinemjiepaaDoor
open Go.RowKit

theorem last_mem {α β : Type} (p : α → β) (f : β → Option α) : ∀ (l o : List α), (∀ x ∈ l.foldl (fun o y => if (f (p y)).isSome then o ++ [y] else o) o, x ∈ o ∨ x ∈ l) ∧ (l.foldl (fun o y => if (f (p y)).isSome then o ++ [y] else o) o).length ≤ o.length + l.length := by
  intro l
  induction l with
  | nil => intro o; exact ⟨fun x hx => .inl hx, by simp⟩
  | cons z t ih =>
    intro o
    rw [List.foldl_cons]
    obtain ⟨h1, h2⟩ := ih (if (f (p z)).isSome then o ++ [z] else o)
    refine ⟨fun x hx => ?_, ?_⟩
    · rcases h1 x hx with h | h
      · split at h
        · rcases List.mem_append.1 h with h | h
          · exact .inl h
          · simp at h; subst h; exact .inr List.mem_cons_self
        · exact .inl h
      · exact .inr (List.mem_cons_of_mem _ h)
    · refine Nat.le_trans h2 ?_
      split
      · simp; omega
      · simp
section
variable {α β : Type} [DecidableEq β] (p : α → β)
structure Inv (a b : List α) (n : Nat) (s : StI α β) : Prop where
  f : ∀ x y, s.f x = some y → y ∈ b
  out : ∀ x ∈ s.out, x ∈ a
  con : ∀ q ∈ s.con, q.1 ∈ a ∧ q.2 ∈ b
  len : s.out.length + s.con.length = n
theorem inv_map (b : List α) : ∀ (l : List α) (f : β → Option α), (∀ y ∈ l, y ∈ b) → (∀ x y, f x = some y → y ∈ b) → ∀ x y, l.foldl (putM p) f x = some y → y ∈ b := by
  intro l
  induction l with
  | nil => intro f _ h; exact h
  | cons z t ih =>
    intro f hl h
    refine ih (putM p f z) (fun y hy => hl y (List.mem_cons_of_mem _ hy)) (fun x y hxy => ?_)
    unfold putM at hxy
    split at hxy
    · injection hxy with e; subst e; exact hl _ List.mem_cons_self
    · exact h x y hxy
theorem inv_step (a b : List α) (n : Nat) (s : StI α β) (h : Inv a b n s) (x : α) (hx : x ∈ a) : Inv a b (n + 1) (stepI p s x) := by
  obtain ⟨h1, h2, h3, h4⟩ := h
  have hd : ∀ z y, delM s.f (p x) z = some y → y ∈ b := fun z y e => by
    unfold delM at e
    split at e
    · cases e
    · exact h1 z y e
  unfold stepI
  cases hf : s.f (p x) with
  | none => exact ⟨hd, fun z hz => by rcases List.mem_append.1 hz with hz | hz; exact h2 z hz; simp at hz; exact hz ▸ hx, h3, by simp; omega⟩
  | some y => exact ⟨hd, h2, fun q hq => by rcases List.mem_append.1 hq with hq | hq; exact h3 q hq; simp at hq; subst hq; exact ⟨hx, h1 _ _ hf⟩, by simp; omega⟩
theorem inv_all (a b : List α) : ∀ (l : List α) (n : Nat) (s : StI α β), (∀ x ∈ l, x ∈ a) → Inv a b n s → Inv a b (n + l.length) (l.foldl (stepI p) s) := by
  intro l
  induction l with
  | nil => intro n s _ h; exact h
  | cons z t ih =>
    intro n s hl h
    have := ih (n + 1) (stepI p s z) (fun x hx => hl x (List.mem_cons_of_mem _ hx)) (inv_step p a b n s h z (hl z List.mem_cons_self))
    rw [List.foldl_cons, List.length_cons]
    rwa [show n + (t.length + 1) = n + 1 + t.length by omega]
/-- What is merged was given. -/
theorem implM_mem (a b : List α) : (∀ x ∈ (implM p a b).1, x ∈ a ++ b) ∧ (∀ q ∈ (implM p a b).2, q.1 ∈ a ++ b ∧ q.2 ∈ a ++ b) ∧ (implM p a b).1.length ≤ a.length + b.length ∧ (implM p a b).2.length ≤ a.length := by
  have h := inv_all p a b a 0 ⟨mapOf p b, [], []⟩ (fun _ h => h) ⟨inv_map p b b _ (fun _ h => h) (fun x y e => by cases e), by simp, by simp, rfl⟩
  obtain ⟨_, h2, h3, h4⟩ := h
  unfold implM
  have hl := last_mem p (a.foldl (stepI p) ⟨mapOf p b, [], []⟩).f b (a.foldl (stepI p) ⟨mapOf p b, [], []⟩).out
  refine ⟨fun x hx => ?_, fun q hq => ?_, ?_, ?_⟩
  · rcases hl.1 x hx with h | h
    · exact List.mem_append_left _ (h2 x h)
    · exact List.mem_append_right _ h
  · exact ⟨List.mem_append_left _ (h3 q hq).1, List.mem_append_right _ (h3 q hq).2⟩
  · exact Nat.le_trans hl.2 (by omega)
  · show (a.foldl (stepI p) ⟨mapOf p b, [], []⟩).con.length ≤ _
    omega
end
theorem exists_val {α : Type} : ∀ (l : List Nat) (ds : List α) (_ : l.Nodup) (_ : l.length = ds.length) (_ : Nonempty α), ∃ v : Nat → α, l.map v = ds
  | [], [], _, _, ⟨d⟩ => ⟨fun _ => d, rfl⟩
  | [], _ :: _, _, h, _ => by simp at h
  | _ :: _, [], _, h, _ => by simp at h
  | g :: t, d :: ds, hn, hl, hne => by
    obtain ⟨hg, ht⟩ := List.nodup_cons.1 hn
    obtain ⟨v, hv⟩ := exists_val t ds ht (by simpa using hl) hne
    refine ⟨fun x => if x = g then d else v x, ?_⟩
    have e : t.map (fun x => if x = g then d else v x) = t.map v := List.map_congr_left fun x hx => if_neg (fun e => hg (by rw [← e]; exact hx))
    rw [List.map_cons, if_pos rfl, e, hv]
theorem PRow.append {w : World} {gs1 gs2 : List Nat} {ds1 ds2 : List Dif} {lo mid : Nat} (h1 : PRow w none lo gs1 ds1) (h2 : PRow w none mid gs2 ds2) (hm : ∀ g ∈ gs1, g < mid) : PRow w none 0 (gs1 ++ gs2) (ds1 ++ ds2) := by
  have l1 := h1.len
  have l2 := h2.len
  refine ⟨by simp [l1, l2], fun i g d e1 e2 => ?_, ?_⟩
  · by_cases hi : i < gs1.length
    · rw [List.getElem?_append_left hi] at e1
      rw [List.getElem?_append_left (by omega)] at e2
      obtain ⟨_, b, c, e⟩ := h1.at_ i g d e1 e2
      exact ⟨Nat.zero_le _, b, c, e⟩
    · rw [List.getElem?_append_right (by omega)] at e1
      rw [List.getElem?_append_right (by omega), ← l1] at e2
      obtain ⟨_, b, c, e⟩ := h2.at_ _ g d e1 e2
      exact ⟨Nat.zero_le _, b, c, e⟩
  · rw [List.nodup_append]
    refine ⟨h1.dist, h2.dist, fun a ha b hb e => ?_⟩
    have := hm a ha
    have := (h2.mem hb).1
    omega
theorem DRow.append {w : World} {g : Option Nat} : ∀ {ds es : List Dif} {xs ys : List Value}, DRow w g ds xs → DRow w g es ys → DRow w g (ds ++ es) (xs ++ ys)
  | [], _, xs, _, h, h2 => by
    have h : xs = [] := h
    subst h
    exact h2
  | _ :: _, _, _, _, ⟨v, zs, e, h1, h2⟩, h3 => ⟨v, zs ++ _, by rw [e, List.append_assoc], h1, DRow.append h2 h3⟩
theorem DIn.bare {w : World} {g : Option Nat} {d : Dif} {v : List Value} (h : DIn w g d v) : DIn w none d v := by
  obtain ⟨A1, c1, A2, c2, e, hc, hr, _, _⟩ := h
  exact ⟨A1, c1, A2, c2, e, hc, hr, nofun, nofun⟩
theorem DRow.bare {w : World} {g : Option Nat} : ∀ {ds : List Dif} {xs : List Value}, DRow w g ds xs → DRow w none ds xs
  | [], _, h => h
  | _ :: _, _, ⟨v, ys, e, h1, h2⟩ => ⟨v, ys, e, h1.bare, DRow.bare h2⟩
theorem DRow.one {w : World} {g : Option Nat} : ∀ {ds : List Dif} {xs : List Value}, DRow w g ds xs → ∀ u ∈ xs, u.oneCell' = true
  | [], xs, h, u, hu => by
    have h : xs = [] := h
    subst h
    cases hu
  | _ :: _, _, ⟨v, ys, e, ⟨A1, c1, A2, c2, hv, _⟩, h2⟩, u, hu => by
    rw [e] at hu
    rcases List.mem_append.1 hu with hu | hu
    · rw [hv] at hu
      simp at hu
      rcases hu with rfl | rfl | rfl | rfl <;> rfl
    · exact DRow.one h2 u hu
def flatP (l : List (Dif × Dif)) : List Dif := l.flatMap fun q => [q.1, q.2]
theorem flatP_snoc (l : List (Dif × Dif)) (q : Dif × Dif) : flatP (l ++ [q]) = flatP l ++ [q.1, q.2] := by simp [flatP]
theorem flatP_length (l : List (Dif × Dif)) : (flatP l).length = 2 * l.length := by
  induction l with
  | nil => rfl
  | cons q t ih => show (q.1 :: q.2 :: flatP t).length = _; simp [ih]; omega
end Go.Proofs.YtijbdinemjiepaaDoor
