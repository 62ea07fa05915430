/- The plain law behind FnBitsOrder: the bits of a field behind sets and unsets do not hang on the order of the sets, and a bit that is set and then unset is not set. -/
import Derived.Test.YtoebofppmkglfaaField
namespace Go.Proofs.Ytoebofppmkglfaa

def bitAt (xs : List UInt8) (i : Nat) : Bool := (xs.getD (xs.length - i / 8 - 1) 0).toNat.testBit (i % 8)
theorem bits_ext {xs ys : List UInt8} (hl : xs.length = ys.length) (h : ∀ i, i < 8 * xs.length → bitAt xs i = bitAt ys i) : xs = ys := by
  apply List.ext_getElem hl
  intro p h1 h2
  apply UInt8.toNat_inj.1
  apply Nat.eq_of_testBit_eq
  intro j
  by_cases hj : j < 8
  · have := h (8 * (xs.length - p - 1) + j) (by omega)
    have e1 : xs.length - (8 * (xs.length - p - 1) + j) / 8 - 1 = p := by omega
    have e2 : (8 * (xs.length - p - 1) + j) % 8 = j := by omega
    simp only [bitAt, ← hl, e1, e2] at this
    simpa [List.getD_eq_getElem?_getD, List.getElem?_eq_getElem h1, List.getElem?_eq_getElem h2] using this
  · have a1 : (xs[p]).toNat < 2 ^ j := Nat.lt_of_lt_of_le (xs[p]).toNat_lt (Nat.pow_le_pow_right (by omega) (by omega : 8 ≤ j))
    have a2 : (ys[p]).toNat < 2 ^ j := Nat.lt_of_lt_of_le (ys[p]).toNat_lt (Nat.pow_le_pow_right (by omega) (by omega : 8 ≤ j))
    rw [Nat.testBit_lt_two_pow a1, Nat.testBit_lt_two_pow a2]
theorem or_bit (b : UInt8) (i j : Nat) : (b ||| UInt8.ofNat (2 ^ (i % 8))).toNat.testBit j = (b.toNat.testBit j || decide (i % 8 = j)) := by
  have h := pow8 i
  rw [UInt8.toNat_or, UInt8.toNat_ofNat_of_lt' (by show _ < 256; omega), Nat.testBit_or, Nat.testBit_two_pow]
theorem and_bit (b : UInt8) (i j : Nat) (hj : j < 8) : (b &&& UInt8.ofNat (255 ^^^ 2 ^ (i % 8))).toNat.testBit j = (b.toNat.testBit j && !decide (i % 8 = j)) := by
  have h := pow8 i
  have hx : 255 ^^^ 2 ^ (i % 8) < 256 := Nat.xor_lt_two_pow (n := 8) (by omega) (by omega)
  rw [UInt8.toNat_and, UInt8.toNat_ofNat_of_lt' (by show _ < 256; omega), Nat.testBit_and, Nat.testBit_xor, Nat.testBit_two_pow]
  have h255 : (255 : Nat).testBit j = true := by
    match j, hj with
    | 0, _ | 1, _ | 2, _ | 3, _ | 4, _ | 5, _ | 6, _ | 7, _ => decide
  rw [h255, Bool.true_xor]
theorem set_at (xs : List UInt8) (a i : Nat) (b : UInt8) (ha : a < 8 * xs.length) (hi : i < 8 * xs.length) : bitAt (xs.set (xs.length - a / 8 - 1) b) i = if i / 8 = a / 8 then b.toNat.testBit (i % 8) else bitAt xs i := by
  simp only [bitAt, List.length_set, List.getD_eq_getElem?_getD, List.getElem?_set]
  by_cases h : i / 8 = a / 8
  · rw [if_pos h, h, if_pos rfl, if_pos (by omega)]
    rfl
  · rw [if_neg h, if_neg (by omega)]
theorem setb_bit (xs : List UInt8) (a i : Nat) (ha : a < 8 * xs.length) (hi : i < 8 * xs.length) : bitAt (setb xs a) i = (bitAt xs i || decide (i = a)) := by
  rw [setb, set_at xs a i _ ha hi]
  split
  · rename_i h
    rw [or_bit, bitAt, h]
    congr 1
    simp only [decide_eq_decide]
    omega
  · rename_i h
    have : i ≠ a := fun e => h (by rw [e])
    simp [this]
theorem unsetb_bit (xs : List UInt8) (a i : Nat) (ha : a < 8 * xs.length) (hi : i < 8 * xs.length) : bitAt (unsetb xs a) i = (bitAt xs i && !decide (i = a)) := by
  rw [unsetb, set_at xs a i _ ha hi]
  split
  · rename_i h
    rw [and_bit _ _ _ (Nat.mod_lt _ (by omega)), bitAt, h]
    congr 2
    simp only [decide_eq_decide]
    omega
  · rename_i h
    have : i ≠ a := fun e => h (by rw [e])
    simp [this]
theorem ups_bit (zs : List Int) (xs : List UInt8) (h0 : ∀ z ∈ zs, 0 ≤ z ∧ z < 8 * (xs.length : Int)) (i : Nat) (hi : i < 8 * xs.length) : bitAt (zs.foldl stepb xs) i = (bitAt xs i || decide ((i : Int) ∈ zs)) := by
  induction zs generalizing xs with
  | nil => simp
  | cons z t ih =>
    have hz := h0 z (by simp)
    rw [List.foldl_cons, ih _ (fun y hy => by rw [stepb_length]; exact h0 y (by simp [hy])) (by rw [stepb_length]; exact hi), stepb, if_pos hz.1, setb_bit _ _ _ (by omega) hi, Bool.or_assoc]
    congr 1
    simp only [List.mem_cons]
    have : (i = z.toNat) ↔ ((i : Int) = z) := by omega
    simp [this]
theorem downs_bit (zs : List Int) (xs : List UInt8) (h0 : ∀ z ∈ zs, z < 0 ∧ -(8 * (xs.length : Int)) ≤ z) (i : Nat) (hi : i < 8 * xs.length) : bitAt (zs.foldl stepb xs) i = (bitAt xs i && !decide (-1 - (i : Int) ∈ zs)) := by
  induction zs generalizing xs with
  | nil => simp
  | cons z t ih =>
    have hz := h0 z (by simp)
    rw [List.foldl_cons, ih _ (fun y hy => by rw [stepb_length]; exact h0 y (by simp [hy])) (by rw [stepb_length]; exact hi), stepb, if_neg (by omega), unsetb_bit _ _ _ (by omega) hi, Bool.and_assoc]
    congr 1
    simp only [List.mem_cons]
    have : (i = (-1 - z).toNat) ↔ (-1 - (i : Int) = z) := by omega
    simp [this]
/-- The two orders of the law. -/
theorem orders_same (m : Nat) (up down : List Int) (hu : ∀ z ∈ up, 0 ≤ z ∧ z < 8 * (m : Int)) (hd : ∀ z ∈ down, z < 0 ∧ -(8 * (m : Int)) ≤ z) :
    fieldOf m [up, down].flatten = fieldOf m [up.reverse, down.map (-1 - ·), down, down].flatten := by
  have hl : (List.replicate m (0 : UInt8)).length = m := by simp
  apply bits_ext (by simp [fieldOf_length])
  intro i hi
  rw [fieldOf_length] at hi
  have ht : ∀ z ∈ down.map (-1 - ·), 0 ≤ z ∧ z < 8 * (m : Int) := fun z hz => by
    obtain ⟨y, hy, rfl⟩ := List.mem_map.1 hz
    have := hd y hy
    omega
  simp only [fieldOf, List.flatten_cons, List.flatten_nil, List.append_nil, List.foldl_append]
  have L : ∀ (zs : List Int) (xs : List UInt8), (zs.foldl stepb xs).length = xs.length := foldl_stepb_length
  rw [downs_bit down _ (by simp only [L, hl]; exact hd) i (by simp only [L, hl]; exact hi), ups_bit up _ (by simp only [hl]; exact hu) i (by simp only [hl]; exact hi)]
  rw [downs_bit down _ (by simp only [L, hl]; exact hd) i (by simp only [L, hl]; exact hi), downs_bit down _ (by simp only [L, hl]; exact hd) i (by simp only [L, hl]; exact hi)]
  rw [ups_bit (down.map (-1 - ·)) _ (by simp only [L, hl]; exact ht) i (by simp only [L, hl]; exact hi), ups_bit up.reverse _ (by simp only [hl, List.mem_reverse]; exact hu) i (by simp only [hl]; exact hi)]
  have hm : ((i : Int) ∈ down.map (-1 - ·)) ↔ (-1 - (i : Int) ∈ down) := by
    simp only [List.mem_map]
    constructor
    · rintro ⟨y, hy, h⟩
      have : y = -1 - (i : Int) := by omega
      rw [← this]; exact hy
    · intro h
      exact ⟨_, h, by omega⟩
  simp only [hm, List.mem_reverse]
  by_cases h1 : -1 - (i : Int) ∈ down <;> simp [h1]
end Go.Proofs.Ytoebofppmkglfaa
