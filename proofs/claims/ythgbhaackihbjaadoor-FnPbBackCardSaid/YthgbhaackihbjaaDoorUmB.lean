/- Bits: a number of 32 bits with a sign, and one of 64, put together in groups of 7 bits. -/
import Derived.Laws.BitsLemmas
import Derived.Test.YthgbhaackihbjaaDoorFlP
import Derived.Test.YthgbhaackihbjaaDoorRdU
namespace Go.Proofs.YthgbhaackihbjaaDoor
open Go.RowKit

theorem i32w_wrap (n : Nat) : i32w n = IntKind.i32.wrap (n : Int) := by rw [IntKind.wrap_i32]; rfl
theorem shift_shl_far (k yk : IntKind) (x y : Int) (h₀ : 0 ≤ y) (h₁ : (k.bits : Int) ≤ y) : Op.shift .shl k x yk y = pure (.int k (k.wrap (x * 2 ^ k.bits))) := by
  have hm : min y.toNat k.bits = k.bits := by omega
  simp [Op.shift, hm]
  omega
theorem sh32 (m j : Nat) : Op.shift .shl .i32 (m : Int) .u64 (7 * (j : Int)) = pure (.int .i32 (i32w (m * 2 ^ (7 * j)))) := by
  by_cases h : 7 * (j : Int) ≤ 32
  · rw [shift_shl .i32 .u64 _ _ (by omega) h, i32w_wrap]
    have : (7 * (j : Int)).toNat = 7 * j := by omega
    rw [this, Int.natCast_mul, Int.natCast_pow]
    rfl
  · rw [shift_shl_far .i32 .u64 _ _ (by omega) (by show (32 : Int) ≤ _; omega), i32w_wrap]
    have e1 : IntKind.i32.wrap ((m : Int) * 2 ^ IntKind.i32.bits) = 0 := by
      rw [IntKind.wrap_i32]
      show ((m : Int) * 2 ^ 32 + 2147483648) % 4294967296 - 2147483648 = 0
      omega
    have e2 : IntKind.i32.wrap ((m * 2 ^ (7 * j) : Nat) : Int) = 0 := by
      rw [IntKind.wrap_i32]
      have hp : 2 ^ (7 * j) = 4294967296 * 2 ^ (7 * j - 32) := by
        rw [show (4294967296 : Nat) = 2 ^ 32 from rfl, ← Nat.pow_add]
        congr 1; omega
      have : m * 2 ^ (7 * j) = 4294967296 * (m * 2 ^ (7 * j - 32)) := by rw [hp, Nat.mul_left_comm]
      omega
    rw [e1, e2]
theorem ofInt_i32w (n : Nat) : BitVec.ofInt 32 (i32w n) = BitVec.ofNat 32 n := by
  apply BitVec.eq_of_toNat_eq
  rw [BitVec.toNat_ofInt, BitVec.toNat_ofNat]
  unfold i32w
  omega
theorem or32 (i acc m : Nat) (h : acc < 2 ^ i) : bits .or .i32 (i32w acc) (i32w (m * 2 ^ i)) = i32w (acc + m * 2 ^ i) := by
  show IntKind.i32.wrap ((BitVec.ofInt 32 (i32w acc) ||| BitVec.ofInt 32 (i32w (m * 2 ^ i))).toNat : Int) = _
  rw [ofInt_i32w, ofInt_i32w, ← BitVec.ofNat_or, BitVec.toNat_ofNat, Nat.or_comm, nat_join i (m * 2 ^ i) acc (Nat.mul_mod_left m _) h, Nat.add_comm, i32w_wrap, IntKind.wrap_i32, IntKind.wrap_i32]
  omega
theorem or64 (i acc m : Nat) (h : acc < 2 ^ i) (hs : acc + m * 2 ^ i < 9223372036854775808) : bits .or .i64 (acc : Int) (wrap64 ((m : Int) * 2 ^ i)) = ((acc + m * 2 ^ i : Nat) : Int) := by
  have e : ((m : Int) * 2 ^ i) = ((m * 2 ^ i : Nat) : Int) := by rw [Int.natCast_mul, Int.natCast_pow]; rfl
  rw [e, IntWalk.wrap64_in _ ⟨by omega, by omega⟩, (bits_nat .i64 63 (by decide) (fun n h0 h1 => by rw [IntKind.wrap_i64]; omega) acc (m * 2 ^ i) (by omega) (by omega)).2, Nat.or_comm, nat_join i (m * 2 ^ i) acc (Nat.mul_mod_left m _) h, Nat.add_comm]
end Go.Proofs.YthgbhaackihbjaaDoor
