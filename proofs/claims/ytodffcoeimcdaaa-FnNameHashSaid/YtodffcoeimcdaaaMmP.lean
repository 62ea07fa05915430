/- murmur3: the plain law. -/
import Derived.Laws.BitsAllLaws
import Derived.Laws.Bits64
import Derived.Test.YtodffcoeimcdaaaProg
import Derived.Test.YtodffcoeimcdaaaMem
namespace Go.Proofs.Ytodffcoeimcdaaa
open Go.RowKit Go.Lib

def mulN (x c : Nat) : Nat := x * c % 18446744073709551616
def addN (x y : Nat) : Nat := (x + y) % 18446744073709551616
def rotN (x r : Nat) : Nat := (x * 2 ^ r % 18446744073709551616) ||| (x / 2 ^ (64 - r))
theorem mulN_lt (x c : Nat) : mulN x c < 18446744073709551616 := Nat.mod_lt _ (by decide)
theorem addN_lt (x y : Nat) : addN x y < 18446744073709551616 := Nat.mod_lt _ (by decide)
theorem xor_lt {x y : Nat} (hx : x < 18446744073709551616) (hy : y < 18446744073709551616) : x ^^^ y < 18446744073709551616 := Nat.xor_lt_two_pow (n := 64) hx hy
theorem or_lt {x y : Nat} (hx : x < 18446744073709551616) (hy : y < 18446744073709551616) : x ||| y < 18446744073709551616 := Nat.or_lt_two_pow (n := 64) hx hy
theorem rotN_lt {x : Nat} (r : Nat) (hx : x < 18446744073709551616) : rotN x r < 18446744073709551616 := or_lt (Nat.mod_lt _ (by decide)) (Nat.lt_of_le_of_lt (Nat.div_le_self _ _) hx)
/-- The last step. -/
def mixN (x : Nat) : Nat :=
  let a := x ^^^ (x / 8589934592)
  let b := mulN a 18397679294719823053
  let c := b ^^^ (b / 8589934592)
  let d := mulN c 14181476777654086739
  d ^^^ (d / 8589934592)
theorem div_lt' {x c : Nat} (hx : x < 18446744073709551616) : x / c < 18446744073709551616 := Nat.lt_of_le_of_lt (Nat.div_le_self _ _) hx
theorem mixN_lt (x : Nat) : mixN x < 18446744073709551616 := xor_lt (mulN_lt _ _) (div_lt' (mulN_lt _ _))
/-- The number of bytes, the lowest one first. -/
def leN : List UInt8 → Nat
  | [] => 0
  | a :: t => a.toNat + 256 * leN t
theorem leN_lt : ∀ l : List UInt8, leN l < 256 ^ l.length
  | [] => by decide
  | a :: t => by
    have h1 := leN_lt t
    have h2 : a.toNat < 256 := UInt8.toNat_lt a
    rw [leN, List.length_cons, Nat.pow_succ]
    omega
theorem leN_8 {l : List UInt8} (h : l.length ≤ 8) : leN l < 18446744073709551616 :=
  Nat.lt_of_lt_of_le (leN_lt l) (Nat.le_trans (Nat.pow_le_pow_right (by decide) h) (by decide))
theorem leN_snoc (l : List UInt8) (x : UInt8) : leN (l ++ [x]) = leN l + 256 ^ l.length * x.toNat := by
  induction l with
  | nil => simp [leN]
  | cons a t ih => rw [List.cons_append, leN, ih, leN, List.length_cons, Nat.pow_succ, Nat.mul_add, ← Nat.mul_assoc, Nat.mul_comm 256 (256 ^ t.length), Nat.add_assoc]
/-- One group of sixteen bytes. -/
def stepH (h k x : Nat) : Nat := addN (mulN (addN (rotN (h ^^^ mulN (rotN (mulN x 9782798678568883157) 31) 5545529020109919103) 27) k) 5) 1390208809
def stepK (h k y : Nat) : Nat := addN (mulN (addN (rotN (k ^^^ mulN (rotN (mulN y 5545529020109919103) 33) 9782798678568883157) 31) h) 5) 944331445
theorem stepH_lt (h k x : Nat) : stepH h k x < 18446744073709551616 := addN_lt _ _
theorem stepK_lt (h k x : Nat) : stepK h k x < 18446744073709551616 := addN_lt _ _
/-- Behind i groups. -/
def st (l : List UInt8) : Nat → Nat × Nat
  | 0 => (0, 0)
  | i + 1 =>
    let h := stepH (st l i).1 (st l i).2 (leN ((l.drop (16 * i)).take 8))
    (h, stepK h (st l i).2 (leN ((l.drop (16 * i + 8)).take 8)))
theorem st_lt (l : List UInt8) (i : Nat) : (st l i).1 < 18446744073709551616 ∧ (st l i).2 < 18446744073709551616 := by
  cases i with
  | zero => exact ⟨Nat.zero_lt_succ _, Nat.zero_lt_succ _⟩
  | succ i => exact ⟨stepH_lt _ _ _, stepK_lt _ _ _⟩
def tailK (k : Nat) (t : List UInt8) : Nat := if 8 < t.length then k ^^^ mulN (rotN (mulN (leN (t.drop 8)) 5545529020109919103) 33) 9782798678568883157 else k
def tailH (h : Nat) (t : List UInt8) : Nat := if 0 < t.length then h ^^^ mulN (rotN (mulN (leN (t.take 8)) 9782798678568883157) 31) 5545529020109919103 else h
def lastN (h k n : Nat) : Nat :=
  let h1 := addN (h ^^^ n) (k ^^^ n)
  let k1 := addN (k ^^^ n) h1
  addN (mixN h1) (mixN k1)
/-- The hash. -/
def mur (l : List UInt8) : Nat := lastN (tailH (st l (l.length / 16)).1 (l.drop (16 * (l.length / 16)))) (tailK (st l (l.length / 16)).2 (l.drop (16 * (l.length / 16)))) l.length
theorem mur_lt (l : List UInt8) : mur l < 18446744073709551616 := addN_lt _ _

/-! ### As the machine has it -/
theorem mulI {x c y : Nat} (h : mulN x c = y) : IntKind.u64.wrap ((x : Int) * (c : Int)) = (y : Int) := by
  rw [IntKind.wrap_u64, ← h, mulN]
  omega
theorem mulC {x y : Nat} (h : mulN x 9782798678568883157 = y) : IntKind.u64.wrap ((x : Int) * 9782798678568883157) = (y : Int) := mulI h
theorem mulD {x y : Nat} (h : mulN x 5545529020109919103 = y) : IntKind.u64.wrap ((x : Int) * 5545529020109919103) = (y : Int) := mulI h
theorem mulE {x y : Nat} (h : mulN x 18397679294719823053 = y) : IntKind.u64.wrap ((x : Int) * 18397679294719823053) = (y : Int) := mulI h
theorem mulF {x y : Nat} (h : mulN x 14181476777654086739 = y) : IntKind.u64.wrap ((x : Int) * 14181476777654086739) = (y : Int) := mulI h
theorem mul5 {x y : Nat} (h : mulN x 5 = y) : IntKind.u64.wrap ((x : Int) * 5) = (y : Int) := mulI h
theorem addI {x c y : Nat} (h : addN x c = y) : IntKind.u64.wrap ((x : Int) + (c : Int)) = (y : Int) := by
  rw [IntKind.wrap_u64, ← h, addN]
  omega
theorem addA {x y : Nat} (h : addN x 1390208809 = y) : IntKind.u64.wrap ((x : Int) + 1390208809) = (y : Int) := addI h
theorem addB {x y : Nat} (h : addN x 944331445 = y) : IntKind.u64.wrap ((x : Int) + 944331445) = (y : Int) := addI h
theorem xorI {x c y : Nat} (hx : x < 18446744073709551616) (hc : c < 18446744073709551616) (h : x ^^^ c = y) : bits .xor .u64 (x : Int) (c : Int) = (y : Int) := by rw [u64_xor_nat x c hx hc, h]
theorem orI64 {x c y : Nat} (hx : x < 18446744073709551616) (hc : c < 18446744073709551616) (h : x ||| c = y) : bits .or .u64 (x : Int) (c : Int) = (y : Int) := by rw [u64_or_nat x c hx hc, h]
theorem xorShr {x y : Nat} (hx : x < 18446744073709551616) (h : x ^^^ (x / 8589934592) = y) : bits .xor .u64 (x : Int) ((x : Int) / 8589934592) = (y : Int) := by
  rw [show ((x : Int) / 8589934592) = ((x / 8589934592 : Nat) : Int) by omega]
  exact xorI hx (div_lt' hx) h
theorem rotI {x a b y r : Nat} (hx : x < 18446744073709551616) (ha : 2 ^ r = a) (hb : 2 ^ (64 - r) = b) (h : rotN x r = y) : bits .or .u64 (IntKind.u64.wrap ((x : Int) * (a : Int))) ((x : Int) / (b : Int)) = (y : Int) := by
  rw [mulI rfl, show ((x : Int) / (b : Int)) = ((x / b : Nat) : Int) from rfl]
  refine orI64 (mulN_lt _ _) (div_lt' hx) ?_
  rw [← h, rotN, ha, hb]
  rfl
theorem rot31 {x y : Nat} (hx : x < 18446744073709551616) (h : rotN x 31 = y) : bits .or .u64 (IntKind.u64.wrap ((x : Int) * 2147483648)) ((x : Int) / 8589934592) = (y : Int) := rotI hx (by decide) (by decide) h
theorem rot27 {x y : Nat} (hx : x < 18446744073709551616) (h : rotN x 27 = y) : bits .or .u64 (IntKind.u64.wrap ((x : Int) * 134217728)) ((x : Int) / 137438953472) = (y : Int) := rotI hx (by decide) (by decide) h
theorem rot33 {x y : Nat} (hx : x < 18446744073709551616) (h : rotN x 33 = y) : bits .or .u64 (IntKind.u64.wrap ((x : Int) * 8589934592)) ((x : Int) / 2147483648) = (y : Int) := rotI hx (by decide) (by decide) h
end Go.Proofs.Ytodffcoeimcdaaa
