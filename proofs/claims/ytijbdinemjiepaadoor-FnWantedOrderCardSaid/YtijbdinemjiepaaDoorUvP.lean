/- The plain law of numbers in groups of 7 bits: their bytes, how many there are, and the bytes of a field. -/
import Derived.Lib.BitFns
namespace Go.Proofs.YtijbdinemjiepaaDoor

def uv (n : Nat) : List UInt8 := if n < 128 then [UInt8.ofNat n] else UInt8.ofNat (n % 128 + 128) :: uv (n / 128)
termination_by n
decreasing_by omega
theorem uv_small {n : Nat} (h : n < 128) : uv n = [UInt8.ofNat n] := by rw [uv, if_pos h]
theorem uv_great {n : Nat} (h : ¬ n < 128) : uv n = UInt8.ofNat (n % 128 + 128) :: uv (n / 128) := by rw [uv, if_neg h]
theorem uv_pos (n : Nat) : 1 ≤ (uv n).length := by
  rw [uv]; split <;> simp
theorem uv_bounds (n : Nat) : n < 2 ^ (7 * (uv n).length) ∧ ((uv n).length = 1 ∨ 2 ^ (7 * ((uv n).length - 1)) ≤ n) := by
  induction n using Nat.strongRecOn with
  | ind n ih =>
    by_cases h : n < 128
    · rw [uv_small h]
      exact ⟨by simpa using h, .inl rfl⟩
    · have i := ih (n / 128) (by omega)
      have hp := uv_pos (n / 128)
      rw [uv_great h, List.length_cons]
      generalize (uv (n / 128)).length = L at i hp
      have e : 2 ^ (7 * (L + 1)) = 2 ^ (7 * L) * 128 := by rw [show 7 * (L + 1) = 7 * L + 7 by omega, Nat.pow_add]
      refine ⟨by rw [e]; omega, .inr ?_⟩
      rw [Nat.add_sub_cancel]
      rcases i.2 with i2 | i2
      · subst i2; simp; omega
      · have e2 : 2 ^ (7 * L) = 2 ^ (7 * (L - 1)) * 128 := by rw [show 7 * L = 7 * (L - 1) + 7 by omega, Nat.pow_add]
        rw [e2]; omega
theorem bitLen_upper (f x : Nat) : x < 2 ^ f → x < 2 ^ Lib.bitLenAux f x := by
  induction f generalizing x with
  | zero => intro h; simpa [Lib.bitLenAux] using h
  | succ f ih =>
    intro h
    rw [Lib.bitLenAux]
    split
    · rename_i h0; subst h0; simp
    · have := ih (x / 2) (by rw [Nat.pow_succ] at h; omega)
      rw [Nat.add_comm 1, Nat.pow_succ]
      omega
theorem bitLen_lower (f x : Nat) : 0 < x → x < 2 ^ f → 1 ≤ Lib.bitLenAux f x ∧ 2 ^ (Lib.bitLenAux f x - 1) ≤ x := by
  induction f generalizing x with
  | zero => intro h0 h; simp at h; omega
  | succ f ih =>
    intro h0 h
    rw [Lib.bitLenAux, if_neg (by omega)]
    refine ⟨by omega, ?_⟩
    rw [Nat.add_sub_cancel_left]
    by_cases h1 : x / 2 = 0
    · have : Lib.bitLenAux f (x / 2) = 0 := by rw [h1]; cases f <;> simp [Lib.bitLenAux]
      rw [this]; simp; omega
    · obtain ⟨a, b⟩ := ih (x / 2) (by omega) (by rw [Nat.pow_succ] at h; omega)
      have e : 2 ^ Lib.bitLenAux f (x / 2) = 2 ^ (Lib.bitLenAux f (x / 2) - 1) * 2 := by rw [← Nat.pow_succ]; congr 1; omega
      rw [e]; omega
theorem sov_eq (x : Nat) (hx : x < 18446744073709551616) : (Lib.bitLen (x ||| 1) + 6) / 7 = (uv x).length := by
  have hy : x ||| 1 < 2 ^ 64 := Nat.or_lt_two_pow hx (by omega)
  have y1 : 1 ≤ x ||| 1 := Nat.right_le_or
  have yx : x ≤ x ||| 1 := Nat.left_le_or
  have u := bitLen_upper 64 (x ||| 1) hy
  obtain ⟨l1, l2⟩ := bitLen_lower 64 (x ||| 1) y1 hy
  obtain ⟨v1, v2⟩ := uv_bounds x
  have hp := uv_pos x
  have hy2 : x ||| 1 < 2 ^ (7 * (uv x).length) := Nat.or_lt_two_pow v1 (Nat.one_lt_two_pow (by omega))
  show (Lib.bitLenAux 64 (x ||| 1) + 6) / 7 = _
  generalize Lib.bitLenAux 64 (x ||| 1) = b at *
  generalize (uv x).length = L at *
  have a1 : b - 1 < 7 * L := (Nat.pow_lt_pow_iff_right (by omega)).1 (Nat.lt_of_le_of_lt l2 hy2)
  have a2 : 7 * (L - 1) < b := by
    rcases v2 with v2 | v2
    · omega
    · exact (Nat.pow_lt_pow_iff_right (a := 2) (by omega)).1 (Nat.lt_of_le_of_lt (Nat.le_trans v2 yx) u)
  omega
theorem uv_le (x : Nat) (hx : x < 18446744073709551616) : (uv x).length ≤ 10 := by
  obtain ⟨_, v2⟩ := uv_bounds x
  rcases v2 with v2 | v2
  · omega
  · have : 7 * ((uv x).length - 1) < 64 := (Nat.pow_lt_pow_iff_right (a := 2) (by omega)).1 (Nat.lt_of_le_of_lt v2 hx)
    omega
/-- The bytes of a field that holds bytes (of the kind 2), and of one that holds a number (0). -/
def fieldB (key : UInt8) (b : List UInt8) : List UInt8 := key :: (uv b.length ++ b)
def fieldN (key : UInt8) (n : Nat) : List UInt8 := key :: uv n
end Go.Proofs.YtijbdinemjiepaaDoor
