/- The plain law of short numbers at the places where they are read: known fields, each with its numbers in bounds; bytes between them are free. -/
import Derived.Test.YthgbhaackihbjaaDoorPnP
namespace Go.Proofs.YthgbhaackihbjaaDoor

/-- The first number has no more than m bytes, and no more than 64 bits; so many bytes went ahead. -/
def run1 (m : Nat) : Nat → List UInt8 → Bool
  | _, [] => true
  | r, c :: t => if c.toNat < 128 then decide (r < 9 ∨ c.toNat ≤ 1) else decide (r + 1 ≠ m) && run1 m (r + 1) t
theorem run1_of {m r : Nat} {l : List UInt8} (hm : 9 ≤ m) (hr : r ≤ 8) (h : runOk r l = true) : run1 m r l = true := by
  induction l generalizing r with
  | nil => rfl
  | cons c t ih =>
    rw [runOk] at h
    rw [run1]
    split
    · simp; omega
    · rename_i hc
      rw [if_neg hc] at h
      simp at h ⊢
      exact ⟨by omega, ih (by omega) h.2⟩
/-- A number that is read: j bytes of it, which go on. -/
structure Prt (m : Nat) (xs : List UInt8) (j acc : Nat) : Prop where
  lt : j + 1 ≤ m
  mm : m ≤ 10
  len : j ≤ xs.length
  low : acc < 2 ^ (7 * j)
  run : run1 m j (xs.drop j) = true
  rd : vi xs = (vi (xs.drop j)).map fun p => (acc + 2 ^ (7 * j) * p.1, p.2 + j)
theorem Prt.start9 {xs : List UInt8} (h : run1 9 0 xs = true) : Prt 9 xs 0 0 := by
  refine ⟨by omega, by omega, by omega, by simp, by simpa using h, ?_⟩
  rw [List.drop_zero]
  cases vi xs with
  | none => rfl
  | some p => simp
theorem Prt.start10 {xs : List UInt8} (h : run1 10 0 xs = true) : Prt 10 xs 0 0 := by
  refine ⟨by omega, by omega, by omega, by simp, by simpa using h, ?_⟩
  rw [List.drop_zero]
  cases vi xs with
  | none => rfl
  | some p => simp
theorem Prt.lt9 {xs : List UInt8} {j acc : Nat} (h : Prt 9 xs j acc) : j ≤ 8 := by have := h.lt; omega
theorem Prt.lt10 {xs : List UInt8} {j acc : Nat} (h : Prt 10 xs j acc) : j ≤ 9 := by have := h.lt; omega
theorem Prt.torn {m : Nat} {xs : List UInt8} {j acc : Nat} (h : Prt m xs j acc) (hj : xs.length ≤ j) : vi xs = none := by
  rw [h.rd, List.drop_of_length_le hj]; rfl
theorem Prt.last {m : Nat} {xs : List UInt8} {j acc : Nat} {c : UInt8} (h : Prt m xs j acc) (hc : xs[j]? = some c) (hs : c.toNat < 128) : vi xs = some (acc + c.toNat * 2 ^ (7 * j), j + 1) ∧ (j < 9 ∨ c.toNat ≤ 1) := by
  have hjl : j < xs.length := (List.getElem?_eq_some_iff.1 hc).1
  have he : xs[j] = c := (List.getElem?_eq_some_iff.1 hc).2
  have hd : xs.drop j = c :: xs.drop (j + 1) := by rw [List.drop_eq_getElem_cons hjl, he]
  have h1 := h.rd
  have hr := h.run
  rw [hd, vi, if_pos hs] at h1
  rw [hd, run1, if_pos hs] at hr
  exact ⟨by rw [h1]; simp [Nat.mul_comm, Nat.add_comm], by simpa using hr⟩
theorem Prt.last9 {xs : List UInt8} {j acc : Nat} {c : UInt8} (h : Prt 9 xs j acc) (hc : xs[j]? = some c) (hs : c.toNat < 128) : vi xs = some (acc + c.toNat * 2 ^ (7 * j), j + 1) ∧ acc + c.toNat * 2 ^ (7 * j) < 2 ^ 63 := by
  refine ⟨(h.last hc hs).1, ?_⟩
  have hl := h.low
  have hj := h.lt9
  have h2 : 2 ^ (7 * j) * 128 ≤ 2 ^ 63 := by
    rw [show (128 : Nat) = 2 ^ 7 from rfl, ← Nat.pow_add]
    exact Nat.pow_le_pow_right (by omega) (by omega)
  have h3 : c.toNat * 2 ^ (7 * j) ≤ 127 * 2 ^ (7 * j) := Nat.mul_le_mul_right _ (by omega)
  generalize 2 ^ (7 * j) = P at *
  omega
theorem Prt.last10 {xs : List UInt8} {j acc : Nat} {c : UInt8} (h : Prt 10 xs j acc) (hc : xs[j]? = some c) (hs : c.toNat < 128) : vi xs = some (acc + c.toNat * 2 ^ (7 * j), j + 1) ∧ acc + c.toNat * 2 ^ (7 * j) < 2 ^ 64 := by
  refine ⟨(h.last hc hs).1, ?_⟩
  have hl := h.low
  have hj := h.lt10
  by_cases h9 : j = 9
  · subst h9
    have h1 : c.toNat ≤ 1 := by rcases (h.last hc hs).2 with h | h <;> omega
    have h3 : c.toNat * 2 ^ (7 * 9) ≤ 1 * 2 ^ (7 * 9) := Nat.mul_le_mul_right _ h1
    omega
  · have h2 : 2 ^ (7 * j) * 128 ≤ 2 ^ 63 := by
      rw [show (128 : Nat) = 2 ^ 7 from rfl, ← Nat.pow_add]
      exact Nat.pow_le_pow_right (by omega) (by omega)
    have h3 : c.toNat * 2 ^ (7 * j) ≤ 127 * 2 ^ (7 * j) := Nat.mul_le_mul_right _ (by omega)
    generalize 2 ^ (7 * j) = P at *
    omega
theorem Prt.next {m : Nat} {xs : List UInt8} {j acc : Nat} {c : UInt8} (h : Prt m xs j acc) (hc : xs[j]? = some c) (hs : ¬ c.toNat < 128) : Prt m xs (j + 1) (acc + c.toNat % 128 * 2 ^ (7 * j)) := by
  have hjl : j < xs.length := (List.getElem?_eq_some_iff.1 hc).1
  have he : xs[j] = c := (List.getElem?_eq_some_iff.1 hc).2
  have hd : xs.drop j = c :: xs.drop (j + 1) := by rw [List.drop_eq_getElem_cons hjl, he]
  have h1 := h.rd
  have hr := h.run
  have hl := h.low
  have hj := h.lt
  rw [hd, vi, if_neg hs] at h1
  rw [hd, run1, if_neg hs] at hr
  simp at hr
  have hp : 2 ^ (7 * (j + 1)) = 2 ^ (7 * j) * 128 := by rw [show 7 * (j + 1) = 7 * j + 7 by omega, Nat.pow_add]
  refine ⟨by omega, h.mm, by omega, ?_, hr.2, ?_⟩
  · rw [hp]
    have h3 : c.toNat % 128 * 2 ^ (7 * j) ≤ 127 * 2 ^ (7 * j) := Nat.mul_le_mul_right _ (by omega)
    generalize 2 ^ (7 * j) = P at *
    omega
  · rw [h1, hp]
    cases vi (xs.drop (j + 1)) with
    | none => rfl
    | some p =>
      simp only [Option.map_some, Option.some.injEq, Prod.mk.injEq]
      refine ⟨?_, by omega⟩
      generalize 2 ^ (7 * j) = P
      rw [Nat.mul_add, Nat.mul_comm P (c.toNat % 128), ← Nat.mul_assoc, Nat.mul_comm P 128, ← Nat.add_assoc]

/-- The two numbers at a field's beginning are in bounds. -/
structure FieldOk (xs : List UInt8) : Prop where
  key : run1 9 0 xs = true
  num : ∀ key k, vi xs = some (key, k) → run1 (if key = 24 then 10 else 9) 0 (xs.drop k) = true
theorem FieldOk.of {xs : List UInt8} (h : runOk 0 xs = true) : FieldOk xs :=
  ⟨run1_of (by omega) (by omega) h, fun key k _ => run1_of (by split <;> omega) (by omega) (runOk_drop h k)⟩
theorem FieldOk.sec9 {l : List UInt8} {i j p key : Nat} (h : FieldOk (l.drop i)) (hv : vi (l.drop i) = some (key, j + 1)) (hp : i + j = p) (hk : key ≠ 24) : run1 9 0 (l.drop (p + 1)) = true := by
  have h1 := h.num _ _ hv
  rw [if_neg hk, List.drop_drop] at h1
  rwa [show i + (j + 1) = p + 1 by omega] at h1
theorem FieldOk.sec10 {l : List UInt8} {i j p : Nat} (h : FieldOk (l.drop i)) (hv : vi (l.drop i) = some (24, j + 1)) (hp : i + j = p) : run1 10 0 (l.drop (p + 1)) = true := by
  have h1 := h.num _ _ hv
  rw [if_pos rfl, List.drop_drop] at h1
  rwa [show i + (j + 1) = p + 1 by omega] at h1

/-- The fields have keys that K lets in, values that P lets in, and numbers in bounds, as far as they are whole. -/
inductive OurR (P : Nat → List UInt8 → Prop) (K : Nat → Prop) : List UInt8 → Prop
  | nil : OurR P K []
  | torn {xs : List UInt8} : FieldOk xs → vi xs = none → OurR P K xs
  | bad {xs : List UInt8} {key k : Nat} : FieldOk xs → vi xs = some (key, k) → K key → pt xs = none → OurR P K xs
  | step {xs : List UInt8} {key k : Nat} {t : Fld} : FieldOk xs → vi xs = some (key, k) → K key → pt xs = some t → P key t.val → OurR P K (xs.drop t.size) → OurR P K xs
theorem OurR.run {P : Nat → List UInt8 → Prop} {K : Nat → Prop} {xs : List UInt8} (h : OurR P K xs) : FieldOk xs := by
  cases h with
  | nil => exact FieldOk.of rfl
  | torn h => exact h
  | bad h => exact h
  | step h => exact h
theorem OurR.key {P : Nat → List UInt8 → Prop} {K : Nat → Prop} {xs : List UInt8} {key k : Nat} (h : OurR P K xs) (hv : vi xs = some (key, k)) : K key ∧ ∀ t, pt xs = some t → P key t.val ∧ OurR P K (xs.drop t.size) := by
  cases h with
  | nil => simp [vi] at hv
  | torn _ h1 => rw [h1] at hv; cases hv
  | bad _ h1 h2 h3 =>
    rw [h1] at hv
    obtain ⟨rfl, rfl⟩ := Prod.mk.inj (Option.some.inj hv)
    exact ⟨h2, fun t ht => by rw [h3] at ht; cases ht⟩
  | step _ h1 h2 h3 h4 h5 =>
    rw [h1] at hv
    obtain ⟨rfl, rfl⟩ := Prod.mk.inj (Option.some.inj hv)
    exact ⟨h2, fun t ht => by rw [h3] at ht; obtain rfl := Option.some.inj ht; exact ⟨h4, h5⟩⟩
theorem OurR.of {P P' : Nat → List UInt8 → Prop} {K : Nat → Prop} (hP : ∀ key v, runOk 0 v = true → P key v → P' key v) {xs : List UInt8} (h : Ours P K xs) (hr : runOk 0 xs = true) : OurR P' K xs := by
  induction h with
  | nil => exact .nil
  | torn h1 => exact .torn (.of hr) h1
  | bad h1 h2 h3 => exact .bad (.of hr) h1 h2 h3
  | step h1 h2 h3 h4 _ ih => exact .step (.of hr) h1 h2 h3 (hP _ _ (pt_run h3 hr) h4) (ih (runOk_drop hr _))
def OurL : List UInt8 → Prop := OurR (fun _ _ => True) KeyL
def OurN : List UInt8 → Prop := OurR (fun key v => key = 18 → OurL v) KeyN
theorem OurL.of {xs : List UInt8} (h : OursL xs) (hr : runOk 0 xs = true) : OurL xs := OurR.of (fun _ _ _ _ => trivial) h hr
theorem OurN.of {xs : List UInt8} (h : OursN xs) (hr : runOk 0 xs = true) : OurN xs := OurR.of (P := fun key v => key = 18 → OursL v) (P' := fun key v => key = 18 → OurL v) (fun _ _ h1 h2 e => OurL.of (h2 e) h1) h hr
end Go.Proofs.YthgbhaackihbjaaDoor
