/- The plain law of the message Data of UnixFS: a field at the beginning of some bytes, known fields, and what a message tells. -/
import Derived.Test.YthgbhaackihbjaaDoorViP
namespace Go.Proofs.YthgbhaackihbjaaDoor

/-- A field: its number, its kind, its number or its bytes, and how many bytes it has. -/
structure Fld where
  at_ : Nat
  kind : Nat
  num : Nat
  val : List UInt8
  size : Nat
/-- The field at the beginning: of the kind 0 or 2, and whole. -/
def pt (xs : List UInt8) : Option Fld := match vi xs with
  | none => none
  | some (key, k) => match vi (xs.drop k) with
    | none => none
    | some (n, m) => if key % 8 = 0 then some ⟨key / 8, 0, n, [], k + m⟩
      else if key % 8 = 2 ∧ n ≤ xs.length - k - m then some ⟨key / 8, 2, 0, (xs.drop (k + m)).take n, k + m + n⟩ else none
theorem pt_none1 {xs : List UInt8} (h : vi xs = none) : pt xs = none := by simp [pt, h]
theorem pt_none2 {xs : List UInt8} {key k : Nat} (h : vi xs = some (key, k)) (h2 : vi (xs.drop k) = none) : pt xs = none := by simp [pt, h, h2]
theorem pt_num {xs : List UInt8} {key k n m : Nat} (h : vi xs = some (key, k)) (h2 : vi (xs.drop k) = some (n, m)) (h8 : key % 8 = 0) : pt xs = some ⟨key / 8, 0, n, [], k + m⟩ := by simp [pt, h, h2, h8]
theorem pt_bytes {xs : List UInt8} {key k n m : Nat} (h : vi xs = some (key, k)) (h2 : vi (xs.drop k) = some (n, m)) (h8 : key % 8 = 2) (hn : n ≤ xs.length - k - m) : pt xs = some ⟨key / 8, 2, 0, (xs.drop (k + m)).take n, k + m + n⟩ := by simp [pt, h, h2, h8, hn]
theorem pt_long {xs : List UInt8} {key k n m : Nat} (h : vi xs = some (key, k)) (h2 : vi (xs.drop k) = some (n, m)) (h8 : key % 8 = 2) (hn : ¬ n ≤ xs.length - k - m) : pt xs = none := by simp [pt, h, h2, h8, hn]
theorem pt_other {xs : List UInt8} {key k n m : Nat} (h : vi xs = some (key, k)) (h2 : vi (xs.drop k) = some (n, m)) (h8 : key % 8 ≠ 0) (h9 : key % 8 ≠ 2) : pt xs = none := by simp [pt, h, h2, h8, h9]
theorem pt_size {xs : List UInt8} {t : Fld} (h : pt xs = some t) : 2 ≤ t.size ∧ t.size ≤ xs.length := by
  cases hv : vi xs with
  | none => rw [pt_none1 hv] at h; cases h
  | some p =>
    obtain ⟨key, k⟩ := p
    obtain ⟨k1, k2⟩ := vi_len hv
    cases hw : vi (xs.drop k) with
    | none => rw [pt_none2 hv hw] at h; cases h
    | some q =>
      obtain ⟨n, m⟩ := q
      obtain ⟨m1, m2⟩ := vi_len hw
      rw [List.length_drop] at m2
      by_cases h8 : key % 8 = 0
      · rw [pt_num hv hw h8] at h
        obtain rfl := Option.some.inj h
        exact ⟨by show _ ≤ k + m; omega, by show k + m ≤ _; omega⟩
      · by_cases h9 : key % 8 = 2
        · by_cases hn : n ≤ xs.length - k - m
          · rw [pt_bytes hv hw h9 hn] at h
            obtain rfl := Option.some.inj h
            exact ⟨by show _ ≤ k + m + n; omega, by show k + m + n ≤ _; omega⟩
          · rw [pt_long hv hw h9 hn] at h; cases h
        · rw [pt_other hv hw h8 h9] at h; cases h

/-- The keys of the known fields. -/
def KeyOk (key : Nat) : Prop := key = 8 ∨ key = 18 ∨ key = 24 ∨ key = 32 ∨ key = 34 ∨ key = 40 ∨ key = 48
/-- The fields are known ones, as far as they are whole. -/
inductive Kn : List UInt8 → Prop
  | nil : Kn []
  | torn {xs : List UInt8} : vi xs = none → Kn xs
  | bad {xs : List UInt8} {key k : Nat} : vi xs = some (key, k) → KeyOk key → pt xs = none → Kn xs
  | step {xs : List UInt8} {key k : Nat} {t : Fld} : vi xs = some (key, k) → KeyOk key → pt xs = some t → Kn (xs.drop t.size) → Kn xs
theorem Kn.key {xs : List UInt8} {key k : Nat} (h : Kn xs) (hv : vi xs = some (key, k)) : KeyOk key ∧ ∀ t, pt xs = some t → Kn (xs.drop t.size) := by
  cases h with
  | nil => simp [vi] at hv
  | torn h1 => rw [h1] at hv; cases hv
  | bad h1 h2 h3 =>
    rw [h1] at hv
    obtain ⟨rfl, rfl⟩ := Prod.mk.inj (Option.some.inj hv)
    exact ⟨h2, fun t ht => by rw [h3] at ht; cases ht⟩
  | step h1 h2 h3 h4 =>
    rw [h1] at hv
    obtain ⟨rfl, rfl⟩ := Prod.mk.inj (Option.some.inj hv)
    exact ⟨h2, fun t ht => by rw [h3] at ht; obtain rfl := Option.some.inj ht; exact h4⟩

/-- What a message tells. -/
structure FSt where
  ty : Option Int
  data : List UInt8
  fsize : Nat
  sizes : List Nat
  hash : Nat
  fan : Nat
def FSt.zero : FSt := ⟨none, [], 0, [], 0, 0⟩
/-- Packed numbers. -/
def pk : Nat → List UInt8 → Option (List Nat)
  | 0, _ => some []
  | f + 1, xs => if xs = [] then some [] else match vi xs with
    | none => none
    | some (v, k) => (pk f (xs.drop k)).map (v :: ·)
/-- A number as one of 32 bits with a sign. -/
def i32w (n : Nat) : Int := ((n : Int) + 2147483648) % 4294967296 - 2147483648
/-- What a field adds. -/
def up (st : FSt) (t : Fld) : Option FSt :=
  if t.at_ = 1 then some { st with ty := some (i32w t.num) }
  else if t.at_ = 2 then some { st with data := t.val }
  else if t.at_ = 3 then some { st with fsize := t.num }
  else if t.at_ = 4 then (if t.kind = 0 then some { st with sizes := st.sizes ++ [t.num] } else (pk t.val.length t.val).map fun l => { st with sizes := st.sizes ++ l })
  else if t.at_ = 5 then some { st with hash := t.num }
  else if t.at_ = 6 then some { st with fan := t.num } else some st
/-- What a message tells, read from some state on; none for a torn one. -/
def ms : Nat → FSt → List UInt8 → Option FSt
  | 0, st, _ => some st
  | f + 1, st, xs => if xs = [] then some st else match pt xs with
    | none => none
    | some t => match up st t with
      | none => none
      | some st' => ms f st' (xs.drop t.size)
theorem ms_nil (f : Nat) (st : FSt) : ms f st [] = some st := by cases f <;> simp [ms]
theorem ms_torn {f : Nat} {st : FSt} {xs : List UInt8} (h : pt xs = none) (hx : 0 < xs.length) (hf : xs.length ≤ f) : ms f st xs = none := by
  obtain ⟨f, rfl⟩ : ∃ g, f = g + 1 := ⟨f - 1, by omega⟩
  have hne : xs ≠ [] := fun e => by subst e; simp at hx
  simp [ms, h, hne]
theorem ms_bad {f : Nat} {st : FSt} {xs : List UInt8} {t : Fld} (h : pt xs = some t) (hu : up st t = none) (hf : xs.length ≤ f) : ms f st xs = none := by
  have hs := pt_size h
  obtain ⟨f, rfl⟩ : ∃ g, f = g + 1 := ⟨f - 1, by omega⟩
  have hne : xs ≠ [] := fun e => by subst e; simp at hs; omega
  simp [ms, h, hne, hu]
theorem ms_step {f : Nat} {st st' : FSt} {xs : List UInt8} {t : Fld} (h : pt xs = some t) (hu : up st t = some st') (hf : xs.length ≤ f + 1) : ms (f + 1) st xs = ms f st' (xs.drop t.size) := by
  have hs := pt_size h
  have hne : xs ≠ [] := fun e => by subst e; simp at hs; omega
  simp [ms, h, hne, hu]
end Go.Proofs.YthgbhaackihbjaaDoor
