/- murmur3: words for Sum128. -/
import Derived.Deep.CutBlock
import Derived.Test.YtodffcoeimcdaaaMmF
namespace Go.Proofs.Ytodffcoeimcdaaa
open Go.RowKit Go.Lib

/-- A way out of nested blocks, taken in one step: so that the kernel need not open each block twice. -/
theorem exit_cut {P : Program} {c : Code} {Q : Exit → Act → World → Prop} {a : Act} {w : World} (ex : Nat) {A0 : Act} {W0 : World} (h1 : c.wp P (fun e a' w' => e = .exit ex ∧ a' = A0 ∧ w' = W0) a w) (h2 : Q (.exit ex) A0 W0) : c.wp P Q a w :=
  wp_mono h1 (by rintro e a' w' ⟨rfl, rfl, rfl⟩; exact h2)
theorem then_exit {K : Act → World → Prop} {Q : Exit → Act → World → Prop} {i : Nat} {a : Act} {w : World} (h : Q (.exit i) a w) : Exit.then K Q (.exit i) a w := h
theorem inBlock_ne {id i : Nat} {Q : Exit → Act → World → Prop} {a : Act} {w : World} (hne : i ≠ id) (h : Q (.exit i) a w) : Exit.inBlock id Q (.exit i) a w := by
  show if i = id then _ else _
  rw [if_neg hne]
  exact h
theorem inBlock_eq {id : Nat} {Q : Exit → Act → World → Prop} {a : Act} {w : World} (h : Q .normal a w) : Exit.inBlock id Q (.exit id) a w := by
  show if id = id then _ else _
  rw [if_pos rfl]
  exact h
theorem xor_add (i a c : Nat) (hc : c < 2 ^ i) : (2 ^ i * a) ^^^ c = 2 ^ i * a + c := by
  rw [Nat.two_pow_add_eq_or_of_lt hc]
  refine Nat.eq_of_testBit_eq fun j => ?_
  rw [Nat.testBit_xor, Nat.testBit_or]
  by_cases h : j < i
  · rw [Nat.testBit_two_pow_mul, decide_eq_false (by omega)]
    simp
  · rw [Nat.testBit_lt_two_pow (Nat.lt_of_lt_of_le hc (Nat.pow_le_pow_right (by decide) (by omega)))]
    simp
theorem xr {m z r s s' : Nat} (hm : m ≤ 7) (hz : z < 256) (hs : 2 ^ (8 * (m + 1)) * r = s) (hs' : 2 ^ (8 * m) * (z + 256 * r) = s') (hb : s < 18446744073709551616) (p : Nat) (hp : 2 ^ (8 * m) = p) : bits .xor .u64 (s : Int) ((z : Int) * (p : Int)) = (s' : Int) := by
  have hq : 2 ^ (8 * (m + 1)) = 256 * p := by rw [← hp, Nat.mul_add, Nat.pow_add, Nat.mul_comm]
  have hp2 : p ≤ 2 ^ 56 := by rw [← hp]; exact Nat.pow_le_pow_right (by decide) (by omega)
  have h1 : p * z < 2 ^ (8 * (m + 1)) := by
    rw [hq, Nat.mul_comm 256 p]
    exact Nat.mul_lt_mul_of_pos_left hz (by rw [← hp]; exact Nat.two_pow_pos _)
  have h2 := xor_add (8 * (m + 1)) r (p * z) h1
  rw [hs] at h2
  have h3 : p * z < 18446744073709551616 := Nat.lt_of_lt_of_le h1 (by rw [hq]; omega)
  rw [show ((z : Int) * (p : Int)) = ((p * z : Nat) : Int) by rw [Int.natCast_mul, Int.mul_comm], u64_xor_nat _ _ hb h3, h2, ← hs', hp, ← hs, hq, Nat.mul_add, Nat.mul_comm 256 p, Nat.mul_assoc, Nat.add_comm]
theorem part_lt (m : Nat) (l : List UInt8) (h : l.length + m ≤ 8) : 2 ^ (8 * m) * leN l < 18446744073709551616 := by
  have h1 := leN_lt l
  have h2 : 2 ^ (8 * m) * leN l < 2 ^ (8 * m) * 256 ^ l.length := Nat.mul_lt_mul_of_pos_left h1 (Nat.two_pow_pos _)
  have h3 : (2 : Nat) ^ (8 * m) * 256 ^ l.length = 2 ^ (8 * (m + l.length)) := by rw [show (256 : Nat) = 2 ^ 8 from rfl, ← Nat.pow_mul, ← Nat.pow_add, Nat.mul_add]
  rw [h3] at h2
  exact Nat.lt_of_lt_of_le h2 (Nat.le_trans (Nat.pow_le_pow_right (by decide) (show 8 * (m + l.length) ≤ 64 by omega)) (by decide))
theorem and15 (t : Nat) (h : t < 16) : bits .and .i64 (t : Int) 15 = (t : Int) := by
  have := bits_nat .i64 63 (by decide) (fun n h0 h1 => by rw [IntKind.wrap_i64]; omega) t 15 (by omega) (by omega)
  have h2 : t &&& 15 = t % 16 := Nat.and_two_pow_sub_one_eq_mod t 4
  rw [h2, Nat.mod_eq_of_lt h] at this
  exact this.1
end Go.Proofs.Ytodffcoeimcdaaa
