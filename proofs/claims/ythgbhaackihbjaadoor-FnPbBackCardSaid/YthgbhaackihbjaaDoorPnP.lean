/- The plain law of the messages PBLink and PBNode: what a message's fields tell, folded one by one; fields of known numbers. -/
import Derived.Test.YthgbhaackihbjaaDoorPbA
import Derived.Test.YthgbhaackihbjaaDoorFlP
namespace Go.Proofs.YthgbhaackihbjaaDoor

section
variable {S : Type}
/-- What a message tells, read from some state on; none for a torn one. -/
def fd (up : S → Fld → Option S) : Nat → S → List UInt8 → Option S
  | 0, st, _ => some st
  | f + 1, st, xs => if xs = [] then some st else match pt xs with
    | none => none
    | some t => match up st t with
      | none => none
      | some st' => fd up f st' (xs.drop t.size)
variable {up : S → Fld → Option S}
theorem fd_nil (f : Nat) (st : S) : fd up f st [] = some st := by cases f <;> simp [fd]
theorem fd_torn {f : Nat} {st : S} {xs : List UInt8} (h : pt xs = none) (hx : 0 < xs.length) (hf : xs.length ≤ f) : fd up f st xs = none := by
  obtain ⟨f, rfl⟩ : ∃ g, f = g + 1 := ⟨f - 1, by omega⟩
  have hne : xs ≠ [] := fun e => by subst e; simp at hx
  simp [fd, h, hne]
theorem fd_bad {f : Nat} {st : S} {xs : List UInt8} {t : Fld} (h : pt xs = some t) (hu : up st t = none) (hf : xs.length ≤ f) : fd up f st xs = none := by
  have hs := pt_size h
  obtain ⟨f, rfl⟩ : ∃ g, f = g + 1 := ⟨f - 1, by omega⟩
  have hne : xs ≠ [] := fun e => by subst e; simp at hs; omega
  simp [fd, h, hne, hu]
theorem fd_step {f : Nat} {st st' : S} {xs : List UInt8} {t : Fld} (h : pt xs = some t) (hu : up st t = some st') (hf : xs.length ≤ f + 1) : fd up (f + 1) st xs = fd up f st' (xs.drop t.size) := by
  have hs := pt_size h
  have hne : xs ≠ [] := fun e => by subst e; simp at hs; omega
  simp [fd, h, hne, hu]
end
theorem pt_shape {xs : List UInt8} {key k : Nat} {t : Fld} (h : pt xs = some t) (hv : vi xs = some (key, k)) : t.at_ = key / 8 ∧ t.kind = key % 8 := by
  cases hw : vi (xs.drop k) with
  | none => rw [pt_none2 hv hw] at h; cases h
  | some q =>
    obtain ⟨n, m⟩ := q
    by_cases h8 : key % 8 = 0
    · rw [pt_num hv hw h8] at h
      obtain rfl := Option.some.inj h
      exact ⟨rfl, h8.symm⟩
    · by_cases h9 : key % 8 = 2
      · by_cases hn : n ≤ xs.length - k - m
        · rw [pt_bytes hv hw h9 hn] at h
          obtain rfl := Option.some.inj h
          exact ⟨rfl, h9.symm⟩
        · rw [pt_long hv hw h9 hn] at h; cases h
      · rw [pt_other hv hw h8 h9] at h; cases h
theorem pt_more {xs : List UInt8} {t : Fld} (h : pt xs = some t) : (t.val = [] ∨ ∃ a n, t.val = (xs.drop a).take n) ∧ t.val.length ≤ t.size := by
  cases hv : vi xs with
  | none => rw [pt_none1 hv] at h; cases h
  | some p =>
    obtain ⟨key, k⟩ := p
    cases hw : vi (xs.drop k) with
    | none => rw [pt_none2 hv hw] at h; cases h
    | some q =>
      obtain ⟨n, m⟩ := q
      by_cases h8 : key % 8 = 0
      · rw [pt_num hv hw h8] at h
        obtain rfl := Option.some.inj h
        exact ⟨.inl rfl, by simp⟩
      · by_cases h9 : key % 8 = 2
        · by_cases hn : n ≤ xs.length - k - m
          · rw [pt_bytes hv hw h9 hn] at h
            obtain rfl := Option.some.inj h
            exact ⟨.inr ⟨_, _, rfl⟩, by show ((xs.drop (k + m)).take n).length ≤ k + m + n; rw [List.length_take]; omega⟩
          · rw [pt_long hv hw h9 hn] at h; cases h
        · rw [pt_other hv hw h8 h9] at h; cases h
theorem runOk_take {r : Nat} {l : List UInt8} (h : runOk r l = true) (n : Nat) : runOk r (l.take n) = true := by
  induction l generalizing r n with
  | nil => simp [runOk]
  | cons c t ih =>
    cases n with
    | zero => simp [runOk]
    | succ n =>
      rw [List.take_succ_cons, runOk]
      rw [runOk] at h
      split
      · rename_i hc; rw [if_pos hc] at h; exact ih h n
      · rename_i hc
        rw [if_neg hc] at h
        simp at h ⊢
        exact ⟨h.1, ih h.2 n⟩
theorem pt_run {xs : List UInt8} {t : Fld} (h : pt xs = some t) (hr : runOk 0 xs = true) : runOk 0 t.val = true := by
  rcases (pt_more h).1 with e | ⟨a, n, e⟩
  · rw [e]; rfl
  · rw [e]; exact runOk_take (runOk_drop hr a) n
theorem pt_val {xs : List UInt8} {t : Fld} (h : pt xs = some t) : t.val.length ≤ xs.length := Nat.le_trans (pt_more h).2 (pt_size h).2

/-- The fields have keys that K lets in and values that P lets in, as far as they are whole. -/
inductive Ours (P : Nat → List UInt8 → Prop) (K : Nat → Prop) : List UInt8 → Prop
  | nil : Ours P K []
  | torn {xs : List UInt8} : vi xs = none → Ours P K xs
  | bad {xs : List UInt8} {key k : Nat} : vi xs = some (key, k) → K key → pt xs = none → Ours P K xs
  | step {xs : List UInt8} {key k : Nat} {t : Fld} : vi xs = some (key, k) → K key → pt xs = some t → P key t.val → Ours P K (xs.drop t.size) → Ours P K xs
theorem Ours.key {P : Nat → List UInt8 → Prop} {K : Nat → Prop} {xs : List UInt8} {key k : Nat} (h : Ours P K xs) (hv : vi xs = some (key, k)) : K key ∧ ∀ t, pt xs = some t → P key t.val ∧ Ours P K (xs.drop t.size) := by
  cases h with
  | nil => simp [vi] at hv
  | torn h1 => rw [h1] at hv; cases hv
  | bad h1 h2 h3 =>
    rw [h1] at hv
    obtain ⟨rfl, rfl⟩ := Prod.mk.inj (Option.some.inj hv)
    exact ⟨h2, fun t ht => by rw [h3] at ht; cases ht⟩
  | step h1 h2 h3 h4 h5 =>
    rw [h1] at hv
    obtain ⟨rfl, rfl⟩ := Prod.mk.inj (Option.some.inj hv)
    exact ⟨h2, fun t ht => by rw [h3] at ht; obtain rfl := Option.some.inj ht; exact ⟨h4, h5⟩⟩
def KeyL (key : Nat) : Prop := key = 8 ∨ key = 10 ∨ key = 16 ∨ key = 18 ∨ key = 24 ∨ key = 26
def KeyN (key : Nat) : Prop := key = 8 ∨ key = 10 ∨ key = 16 ∨ key = 18
def OursL : List UInt8 → Prop := Ours (fun _ _ => True) KeyL
def OursN : List UInt8 → Prop := Ours (fun key v => key = 18 → OursL v) KeyN

/-- A link of no field. -/
def PLk.zero : PLk := ⟨false, false, false, [], ByteArray.empty, 0⟩
/-- What a field adds to a link. -/
def upL (st : PLk) (t : Fld) : Option PLk :=
  if (t.at_ = 3 ∧ t.kind ≠ 0) ∨ (t.at_ ≠ 3 ∧ t.kind = 0) then none
  else if t.at_ = 1 then some { st with hh := true, hash := t.val }
  else if t.at_ = 2 then some { st with hn := true, name := ⟨t.val.toArray⟩ }
  else if t.at_ = 3 then some { st with hs := true, size := t.num } else some st
def linkOf (xs : List UInt8) : Option PLk := fd upL xs.length PLk.zero xs
def PNd.zero : PNd := ⟨false, [], []⟩
/-- What a field adds to a node. -/
def upN (st : PNd) (t : Fld) : Option PNd :=
  if t.kind = 0 then none
  else if t.at_ = 1 then some { st with has := true, data := t.val }
  else (linkOf t.val).map fun l => { st with links := st.links ++ [l] }
def nodeOf (xs : List UInt8) : Option PNd := fd upN xs.length PNd.zero xs
end Go.Proofs.YthgbhaackihbjaaDoor
