/- The plain law of numbers in groups of 7 bits, as they are read: the value, and how many bytes it has; lists without nine bytes in a row that go on. -/
import Derived.Test.YthgbhaackihbjaaDoorUvP
namespace Go.Proofs.YthgbhaackihbjaaDoor

/-- The number at the beginning: its value and how many bytes it has. -/
def vi : List UInt8 → Option (Nat × Nat)
  | [] => none
  | c :: t => if c.toNat < 128 then some (c.toNat, 1) else (vi t).map fun p => (c.toNat % 128 + 128 * p.1, p.2 + 1)
/-- Never nine bytes in a row that go on; so many went ahead. -/
def runOk : Nat → List UInt8 → Bool
  | _, [] => true
  | r, c :: t => if c.toNat < 128 then runOk 0 t else decide (r + 1 ≠ 9) && runOk (r + 1) t
theorem runOk_less {r q : Nat} {l : List UInt8} (h : runOk r l = true) (hq : q ≤ r) (hr : r ≤ 8) : runOk q l = true := by
  induction l generalizing r q with
  | nil => rfl
  | cons c t ih =>
    rw [runOk] at h ⊢
    split
    · rename_i hc; rw [if_pos hc] at h; exact h
    · rename_i hc
      rw [if_neg hc] at h
      simp at h ⊢
      exact ⟨by omega, ih h.2 (by omega) (by omega)⟩
theorem runOk_drop {l : List UInt8} (h : runOk 0 l = true) (n : Nat) : runOk 0 (l.drop n) = true := by
  induction n generalizing l with
  | zero => simpa using h
  | succ n ih =>
    cases l with
    | nil => rfl
    | cons c t =>
      rw [runOk] at h
      split at h
      · exact ih h
      · simp at h
        exact ih (runOk_less (r := 1) h (by omega) (by omega))
theorem vi_len {xs : List UInt8} {n k : Nat} (h : vi xs = some (n, k)) : 1 ≤ k ∧ k ≤ xs.length := by
  induction xs generalizing n k with
  | nil => simp [vi] at h
  | cons c t ih =>
    rw [vi] at h
    split at h
    · obtain ⟨rfl, rfl⟩ := by simpa using h
      simp
    · cases hv : vi t with
      | none => rw [hv] at h; simp at h
      | some p =>
        obtain ⟨a, b⟩ := p
        rw [hv] at h
        obtain ⟨rfl, rfl⟩ := by simpa using h
        have := ih hv
        simp; omega
theorem vi_take {xs : List UInt8} {n k m : Nat} (h : vi xs = some (n, k)) (hm : k ≤ m) : vi (xs.take m) = some (n, k) := by
  induction xs generalizing n k m with
  | nil => simp [vi] at h
  | cons c t ih =>
    have hk := (vi_len h).1
    obtain ⟨m, rfl⟩ : ∃ j, m = j + 1 := ⟨m - 1, by omega⟩
    rw [List.take_succ_cons, vi]
    rw [vi] at h
    split at h
    · rename_i hc; rw [if_pos hc]; exact h
    · rename_i hc
      rw [if_neg hc]
      cases hv : vi t with
      | none => rw [hv] at h; simp at h
      | some p =>
        obtain ⟨a, b⟩ := p
        rw [hv] at h
        obtain ⟨rfl, rfl⟩ := by simpa using h
        rw [ih hv (show b ≤ m by omega)]
        simp
theorem vi_of_take {xs : List UInt8} {n k m : Nat} (h : vi (xs.take m) = some (n, k)) : vi xs = some (n, k) := by
  induction xs generalizing n k m with
  | nil => simp [vi] at h
  | cons c t ih =>
    cases m with
    | zero => simp [vi] at h
    | succ m =>
      rw [List.take_succ_cons, vi] at h
      rw [vi]
      split at h
      · rename_i hc; rw [if_pos hc]; exact h
      · rename_i hc
        rw [if_neg hc]
        cases hv : vi (t.take m) with
        | none => rw [hv] at h; simp at h
        | some p =>
          obtain ⟨a, b⟩ := p
          rw [hv] at h
          rw [ih hv]
          exact h
/-- A number that is read: j bytes of it, which go on. -/
structure Part (xs : List UInt8) (j acc : Nat) : Prop where
  lt : j ≤ 8
  len : j ≤ xs.length
  low : acc < 2 ^ (7 * j)
  run : runOk j (xs.drop j) = true
  rd : vi xs = (vi (xs.drop j)).map fun p => (acc + 2 ^ (7 * j) * p.1, p.2 + j)
theorem Part.start {xs : List UInt8} (h : runOk 0 xs = true) : Part xs 0 0 := by
  refine ⟨by omega, by omega, by simp, by simpa using h, ?_⟩
  rw [List.drop_zero]
  cases vi xs with
  | none => rfl
  | some p => simp
theorem Part.torn {xs : List UInt8} {j acc : Nat} (h : Part xs j acc) (hj : xs.length ≤ j) : vi xs = none := by
  rw [h.rd, List.drop_of_length_le hj]; rfl
theorem Part.last {xs : List UInt8} {j acc : Nat} {c : UInt8} (h : Part xs j acc) (hc : xs[j]? = some c) (hs : c.toNat < 128) : vi xs = some (acc + c.toNat * 2 ^ (7 * j), j + 1) ∧ acc + c.toNat * 2 ^ (7 * j) < 2 ^ 63 := by
  have hjl : j < xs.length := (List.getElem?_eq_some_iff.1 hc).1
  have he : xs[j] = c := (List.getElem?_eq_some_iff.1 hc).2
  have hd : xs.drop j = c :: xs.drop (j + 1) := by rw [List.drop_eq_getElem_cons hjl, he]
  have h1 := h.rd
  rw [hd, vi, if_pos hs] at h1
  refine ⟨by rw [h1]; simp [Nat.mul_comm, Nat.add_comm], ?_⟩
  have hl := h.low
  have hj := h.lt
  have h2 : 2 ^ (7 * j) * 128 ≤ 2 ^ 63 := by
    rw [show (128 : Nat) = 2 ^ 7 from rfl, ← Nat.pow_add]
    exact Nat.pow_le_pow_right (by omega) (by omega)
  have h3 : c.toNat * 2 ^ (7 * j) ≤ 127 * 2 ^ (7 * j) := Nat.mul_le_mul_right _ (by omega)
  generalize 2 ^ (7 * j) = P at *
  omega
theorem Part.next {xs : List UInt8} {j acc : Nat} {c : UInt8} (h : Part xs j acc) (hc : xs[j]? = some c) (hs : ¬ c.toNat < 128) : Part xs (j + 1) (acc + c.toNat % 128 * 2 ^ (7 * j)) := by
  have hjl : j < xs.length := (List.getElem?_eq_some_iff.1 hc).1
  have he : xs[j] = c := (List.getElem?_eq_some_iff.1 hc).2
  have hd : xs.drop j = c :: xs.drop (j + 1) := by rw [List.drop_eq_getElem_cons hjl, he]
  have h1 := h.rd
  have hr := h.run
  have hl := h.low
  have hj := h.lt
  rw [hd, vi, if_neg hs] at h1
  rw [hd, runOk, if_neg hs] at hr
  simp at hr
  have hp : 2 ^ (7 * (j + 1)) = 2 ^ (7 * j) * 128 := by rw [show 7 * (j + 1) = 7 * j + 7 by omega, Nat.pow_add]
  refine ⟨by omega, by omega, ?_, hr.2, ?_⟩
  · rw [hp]
    have h3 : c.toNat % 128 * 2 ^ (7 * j) ≤ 127 * 2 ^ (7 * j) := Nat.mul_le_mul_right _ (by omega)
    generalize 2 ^ (7 * j) = P at *
    omega
  · rw [h1, hp]
    cases vi (xs.drop (j + 1)) with
    | none => rfl
    | some p =>
      simp only [Option.map_some, Option.some.injEq, Prod.mk.injEq]
      refine ⟨?_, by omega⟩
      generalize 2 ^ (7 * j) = P
      rw [Nat.mul_add, Nat.mul_comm P (c.toNat % 128), ← Nat.mul_assoc, Nat.mul_comm P 128, ← Nat.add_assoc]
theorem vi_small {xs : List UInt8} {n k : Nat} (h : vi xs = some (n, k)) (hr : runOk 0 xs = true) : n < 2 ^ 63 ∧ k ≤ 9 := by
  have key : ∀ (m j acc : Nat), xs.length - j ≤ m → Part xs j acc → n < 2 ^ 63 ∧ k ≤ 9 := by
    intro m
    induction m with
    | zero =>
      intro j acc hm hp
      rw [hp.torn (by omega)] at h
      simp at h
    | succ m ih =>
      intro j acc hm hp
      by_cases hj : xs.length ≤ j
      · rw [hp.torn hj] at h; simp at h
      · have hc : xs[j]? = some xs[j] := List.getElem?_eq_getElem (by omega)
        by_cases hs : (xs[j]).toNat < 128
        · obtain ⟨h1, h2⟩ := hp.last hc hs
          rw [h] at h1
          obtain ⟨rfl, rfl⟩ := by simpa using h1
          exact ⟨h2, by have := hp.lt; omega⟩
        · exact ih (j + 1) _ (by omega) (hp.next hc hs)
  exact key xs.length 0 0 (by omega) (Part.start hr)
end Go.Proofs.YthgbhaackihbjaaDoor
