/- The plain law of base 32: digits of five bits, by groups of five bytes, and one after the other. -/
import Derived.Test.YtijbdinemjiepaaB32N
namespace Go.Proofs.Ytijbdinemjiepaa

/-- The digits, by groups of five bytes. -/
def enc5 : List UInt8 → List Nat
  | a :: b :: c :: d :: e :: t => (a.toNat / 8) :: (a.toNat % 8 * 4 + b.toNat / 64) :: (b.toNat / 2 % 32) :: (b.toNat % 2 * 16 + c.toNat / 16) :: (c.toNat % 16 * 2 + d.toNat / 128) :: (d.toNat / 4 % 32) :: (d.toNat % 4 * 8 + e.toNat / 32) :: (e.toNat % 32) :: enc5 t
  | [a, b, c, d] => [a.toNat / 8, a.toNat % 8 * 4 + b.toNat / 64, b.toNat / 2 % 32, b.toNat % 2 * 16 + c.toNat / 16, c.toNat % 16 * 2 + d.toNat / 128, d.toNat / 4 % 32, d.toNat % 4 * 8]
  | [a, b, c] => [a.toNat / 8, a.toNat % 8 * 4 + b.toNat / 64, b.toNat / 2 % 32, b.toNat % 2 * 16 + c.toNat / 16, c.toNat % 16 * 2]
  | [a, b] => [a.toNat / 8, a.toNat % 8 * 4 + b.toNat / 64, b.toNat / 2 % 32, b.toNat % 2 * 16]
  | [a] => [a.toNat / 8, a.toNat % 8 * 4]
  | [] => []
theorem toNat_lt (a : UInt8) : a.toNat < 256 := UInt8.toNat_lt a
theorem five {P : List UInt8 → Prop} (h0 : P []) (h1 : ∀ a, P [a]) (h2 : ∀ a b, P [a, b]) (h3 : ∀ a b c, P [a, b, c]) (h4 : ∀ a b c d, P [a, b, c, d]) (h5 : ∀ a b c d e t, P t → P (a :: b :: c :: d :: e :: t)) : ∀ l, P l
  | [] => h0
  | [a] => h1 a
  | [a, b] => h2 a b
  | [a, b, c] => h3 a b c
  | [a, b, c, d] => h4 a b c d
  | a :: b :: c :: d :: e :: t => h5 a b c d e t (five h0 h1 h2 h3 h4 h5 t)
theorem enc5_lt (l : List UInt8) : ∀ k ∈ enc5 l, k < 32 := by
  induction l using five with
  | h0 => intro k hk; cases hk
  | h1 a => intro k hk; have := toNat_lt a; simp [enc5] at hk; omega
  | h2 a b => intro k hk; have := toNat_lt a; have := toNat_lt b; simp [enc5] at hk; omega
  | h3 a b c => intro k hk; have := toNat_lt a; have := toNat_lt b; have := toNat_lt c; simp [enc5] at hk; omega
  | h4 a b c d => intro k hk; have := toNat_lt a; have := toNat_lt b; have := toNat_lt c; have := toNat_lt d; simp [enc5] at hk; omega
  | h5 a b c d e t ih =>
    intro k hk
    have := toNat_lt a; have := toNat_lt b; have := toNat_lt c; have := toNat_lt d; have := toNat_lt e
    simp only [enc5, List.mem_cons] at hk
    rcases hk with h | h | h | h | h | h | h | h | h
    all_goals first | exact ih k h | omega
theorem enc5_length (l : List UInt8) : (enc5 l).length = (l.length * 8 + 4) / 5 := by
  induction l using five with
  | h0 => rfl
  | h1 a => simp [enc5]
  | h2 a b => simp [enc5]
  | h3 a b c => simp [enc5]
  | h4 a b c d => simp [enc5]
  | h5 a b c d e t ih => simp only [enc5, List.length_cons, ih]; omega
/-- One after the other: what is held, and how many bits of it. -/
def em (h : Nat) : Nat → List Nat
  | q => if 5 ≤ q then (h / 2 ^ (q - 5) % 32) :: em h (q - 5) else []
termination_by q => q
decreasing_by omega
def spd (h r : Nat) : List UInt8 → List Nat
  | [] => if 0 < r then [h * 2 ^ (5 - r) % 32] else []
  | c :: t => em (h * 256 + c.toNat) (r + 8) ++ spd ((h * 256 + c.toNat) % 2 ^ ((r + 8) % 5)) ((r + 8) % 5) t
theorem em_less {h q : Nat} (hq : q < 5) : em h q = [] := by rw [em, if_neg (by omega)]
theorem em_more {h q : Nat} (hq : 5 ≤ q) : em h q = (h / 2 ^ (q - 5) % 32) :: em h (q - 5) := by rw [em, if_pos hq]
theorem em_8 (h : Nat) : em h 8 = [h / 8 % 32] := by rw [em_more (by omega), em_less (by omega)]
theorem em_11 (h : Nat) : em h 11 = [h / 64 % 32, h / 2 % 32] := by rw [em_more (by omega), em_more (by omega), em_less (by omega)]
theorem em_9 (h : Nat) : em h 9 = [h / 16 % 32] := by rw [em_more (by omega), em_less (by omega)]
theorem em_12 (h : Nat) : em h 12 = [h / 128 % 32, h / 4 % 32] := by rw [em_more (by omega), em_more (by omega), em_less (by omega)]
theorem em_10 (h : Nat) : em h 10 = [h / 32 % 32, h % 32] := by rw [em_more (by omega), em_more (by omega), em_less (by omega)]; simp
theorem spd_0 (h : Nat) (c : UInt8) (t : List UInt8) : spd h 0 (c :: t) = ((h * 256 + c.toNat) / 8 % 32) :: spd ((h * 256 + c.toNat) % 8) 3 t := by rw [spd, em_8]; rfl
theorem spd_3 (h : Nat) (c : UInt8) (t : List UInt8) : spd h 3 (c :: t) = ((h * 256 + c.toNat) / 64 % 32) :: ((h * 256 + c.toNat) / 2 % 32) :: spd ((h * 256 + c.toNat) % 2) 1 t := by rw [spd, em_11]; rfl
theorem spd_1 (h : Nat) (c : UInt8) (t : List UInt8) : spd h 1 (c :: t) = ((h * 256 + c.toNat) / 16 % 32) :: spd ((h * 256 + c.toNat) % 16) 4 t := by rw [spd, em_9]; rfl
theorem spd_4 (h : Nat) (c : UInt8) (t : List UInt8) : spd h 4 (c :: t) = ((h * 256 + c.toNat) / 128 % 32) :: ((h * 256 + c.toNat) / 4 % 32) :: spd ((h * 256 + c.toNat) % 4) 2 t := by rw [spd, em_12]; rfl
theorem spd_2 (h : Nat) (c : UInt8) (t : List UInt8) : spd h 2 (c :: t) = ((h * 256 + c.toNat) / 32 % 32) :: ((h * 256 + c.toNat) % 32) :: spd ((h * 256 + c.toNat) % 1) 0 t := by rw [spd, em_10]; rfl
theorem spd_enc (l : List UInt8) : spd 0 0 l = enc5 l := by
  induction l using five with
  | h0 => rfl
  | h1 a =>
    have := toNat_lt a
    rw [spd_0, spd, enc5]
    simp only [List.cons.injEq, if_pos (show 0 < 3 by omega), and_true]
    exact ⟨by omega, by omega⟩
  | h2 a b =>
    have := toNat_lt a; have := toNat_lt b
    rw [spd_0, spd_3, spd, enc5]
    simp only [List.cons.injEq, if_pos (show 0 < 1 by omega), and_true]
    exact ⟨by omega, by omega, by omega, by omega⟩
  | h3 a b c =>
    have := toNat_lt a; have := toNat_lt b; have := toNat_lt c
    rw [spd_0, spd_3, spd_1, spd, enc5]
    simp only [List.cons.injEq, if_pos (show 0 < 4 by omega), and_true]
    exact ⟨by omega, by omega, by omega, by omega, by omega⟩
  | h4 a b c d =>
    have := toNat_lt a; have := toNat_lt b; have := toNat_lt c; have := toNat_lt d
    rw [spd_0, spd_3, spd_1, spd_4, spd, enc5]
    simp only [List.cons.injEq, if_pos (show 0 < 2 by omega), and_true]
    exact ⟨by omega, by omega, by omega, by omega, by omega, by omega, by omega⟩
  | h5 a b c d e t ih =>
    have := toNat_lt a; have := toNat_lt b; have := toNat_lt c; have := toNat_lt d; have := toNat_lt e
    rw [spd_0, spd_3, spd_1, spd_4, spd_2, enc5, Nat.mod_one, ih]
    simp only [List.cons.injEq, and_true]
    exact ⟨by omega, by omega, by omega, by omega, by omega, by omega, by omega, by omega⟩
/-- The letters: capitals, and the small ones of the reference. -/
def letter (k : Nat) : UInt8 := if k < 26 then UInt8.ofNat (65 + k) else UInt8.ofNat (24 + k)
def small (k : Nat) : UInt8 := if k < 26 then UInt8.ofNat (97 + k) else UInt8.ofNat (24 + k)
theorem abc_at : ∀ k, k < 32 → abc.data.toList[k]? = some (letter k) := by decide
theorem dm_letter : ∀ k, k < 32 → dm abc 32 (letter k).toNat = k := by decide
theorem letter_nl : ∀ k, k < 32 → letter k ≠ 10 ∧ letter k ≠ 13 ∧ letter k ≠ 255 := by decide
theorem up_small : ∀ k, k < 32 → (if 97 ≤ (small k).toNat ∧ (small k).toNat ≤ 122 then small k - 32 else small k) = letter k := by decide
end Go.Proofs.Ytijbdinemjiepaa
