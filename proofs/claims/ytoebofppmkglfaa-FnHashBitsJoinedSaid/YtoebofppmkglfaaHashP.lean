/- The plain law behind the bits of a hash: numbers that bits make, the highest ones first; what is taken in two parts is what is taken at once. -/
import Derived.Test.YtoebofppmkglfaaMem
namespace Go.Proofs.Ytoebofppmkglfaa

def bitM (bs : List UInt8) (p : Nat) : Nat := (bs.getD (p / 8) 0).toNat / 2 ^ (7 - p % 8) % 2
def num (bs : List UInt8) (c : Nat) : Nat → Nat
  | 0 => 0
  | i + 1 => 2 * num bs c i + bitM bs (c + i)
theorem num_add (bs : List UInt8) (c i j : Nat) : num bs c (i + j) = num bs c i * 2 ^ j + num bs (c + i) j := by
  induction j with
  | zero => simp [num]
  | succ j ih =>
    rw [← Nat.add_assoc, num, num, ih, Nat.pow_succ, Nat.add_assoc c i j]
    have : num bs c i * (2 ^ j * 2) = 2 * (num bs c i * 2 ^ j) := by
      rw [← Nat.mul_assoc, Nat.mul_comm]
    omega
theorem num_lt (bs : List UInt8) (c i : Nat) : num bs c i < 2 ^ i := by
  induction i with
  | zero => simp [num]
  | succ i ih =>
    rw [num, Nat.pow_succ]
    have : bitM bs (c + i) < 2 := Nat.mod_lt _ (by omega)
    omega
theorem num_byte (bs : List UInt8) (c i : Nat) (h : c % 8 + i ≤ 8) : num bs c i = (bs.getD (c / 8) 0).toNat % 2 ^ (8 - c % 8) / 2 ^ (8 - c % 8 - i) := by
  induction i with
  | zero => rw [num, Nat.sub_zero, Nat.div_eq_of_lt (Nat.mod_lt _ (Nat.pow_pos (by omega)))]
  | succ i ih =>
    rw [num, ih (by omega), bitM]
    have e1 : (c + i) / 8 = c / 8 := by omega
    have e2 : 7 - (c + i) % 8 = 8 - c % 8 - (i + 1) := by omega
    rw [e1, e2]
    generalize (bs.getD (c / 8) 0).toNat = x
    obtain ⟨k, hk⟩ : ∃ k, 8 - c % 8 - (i + 1) = k := ⟨_, rfl⟩
    have hk1 : 8 - c % 8 - i = k + 1 := by omega
    have hkl : k < 8 - c % 8 := by omega
    rw [hk, hk1]
    generalize 8 - c % 8 = l at hkl
    have a : x % 2 ^ l / 2 ^ (k + 1) = x % 2 ^ l / 2 ^ k / 2 := by rw [Nat.pow_succ, Nat.div_div_eq_div_mul]
    have b : x % 2 ^ l / 2 ^ k % 2 = x / 2 ^ k % 2 := by
      have h1 := Nat.testBit_mod_two_pow x l k
      rw [Nat.testBit_eq_decide_div_mod_eq, Nat.testBit_eq_decide_div_mod_eq, decide_eq_true hkl, Bool.true_and, decide_eq_decide] at h1
      have := Nat.mod_two_eq_zero_or_one (x % 2 ^ l / 2 ^ k)
      have := Nat.mod_two_eq_zero_or_one (x / 2 ^ k)
      omega
    rw [a, ← b]
    omega
/-- The numbers that takes give, from place c on. -/
def nums (bs : List UInt8) : Nat → List Nat → List Int
  | _, [] => []
  | c, i :: t => (num bs c i : Int) :: nums bs (c + i) t
theorem nums_length (bs : List UInt8) (l : List Nat) : ∀ c, (nums bs c l).length = l.length := by
  induction l with
  | nil => intro c; rfl
  | cons i t ih => intro c; simp [nums, ih]
theorem nums_append (bs : List UInt8) (l m : List Nat) : ∀ c, nums bs c (l ++ m) = nums bs c l ++ nums bs (c + l.sum) m := by
  induction l with
  | nil => intro c; simp [nums]
  | cons i t ih => intro c; simp [nums, ih, Nat.add_assoc]
end Go.Proofs.Ytoebofppmkglfaa
