/- murmur3: rotations, the last step, the number of bytes. -/
import Derived.Test.YtodffcoeimcdaaaMmP
namespace Go.Proofs.Ytodffcoeimcdaaa
open Go.RowKit Go.Lib

def slen : Value → Nat
  | .slice _ k _ => k
  | _ => 0
/-- Bytes that stand at a place. -/
def Src (w : World) (b o : Nat) (ys : List UInt8) : Prop := ∀ (j : Nat) (y : UInt8), ys[j]? = some y → w.cell? ⟨b, o + j, none⟩ = some (.int .u8 (y.toNat : Int))
theorem Src.drewN {w : World} {b o : Nat} {ys : List UInt8} (h : Src w b o ys) (k : Nat) : Src (w.drewN k) b o ys := h
theorem Src.drop {w : World} {b o : Nat} {ys : List UInt8} (h : Src w b o ys) (k : Nat) : Src w b (o + k) (ys.drop k) := fun j y hj => by
  rw [List.getElem?_drop] at hj
  rw [Nat.add_assoc]
  exact h _ _ hj
theorem or_add (i a c : Nat) (hc : c < 2 ^ i) : c ||| (2 ^ i * a) = c + 2 ^ i * a := by
  rw [Nat.or_comm, ← Nat.two_pow_add_eq_or_of_lt hc, Nat.add_comm]
set_option maxRecDepth 100000 in
set_option maxHeartbeats 4000000 in
theorem rot31_any (x : Nat) (w : World) (hx : x < 18446744073709551616) : Calls Try.prog 10 #[.int .u64 x, .int .i64 31] w fun e w' => e = .returned (.int .u64 ((rotN x 31 : Nat) : Int)) ∧ w' = w := by
  obtain ⟨y, hy⟩ : ∃ y, rotN x 31 = y := ⟨_, rfl⟩
  have e1 : bits .and .u64 31 63 = 31 := by decide +kernel
  have e2 := rot31 hx hy
  rw [hy]
  clear hy hx
  go_enter Try.func10, Try.ntmps10
  go_wp2
  go_ret
  exact ⟨rfl, rfl⟩
set_option maxRecDepth 100000 in
set_option maxHeartbeats 4000000 in
theorem rot27_any (x : Nat) (w : World) (hx : x < 18446744073709551616) : Calls Try.prog 10 #[.int .u64 x, .int .i64 27] w fun e w' => e = .returned (.int .u64 ((rotN x 27 : Nat) : Int)) ∧ w' = w := by
  obtain ⟨y, hy⟩ : ∃ y, rotN x 27 = y := ⟨_, rfl⟩
  have e1 : bits .and .u64 27 63 = 27 := by decide +kernel
  have e2 := rot27 hx hy
  rw [hy]
  clear hy hx
  go_enter Try.func10, Try.ntmps10
  go_wp2
  go_ret
  exact ⟨rfl, rfl⟩
set_option maxRecDepth 100000 in
set_option maxHeartbeats 4000000 in
theorem rot33_any (x : Nat) (w : World) (hx : x < 18446744073709551616) : Calls Try.prog 10 #[.int .u64 x, .int .i64 33] w fun e w' => e = .returned (.int .u64 ((rotN x 33 : Nat) : Int)) ∧ w' = w := by
  obtain ⟨y, hy⟩ : ∃ y, rotN x 33 = y := ⟨_, rfl⟩
  have e1 : bits .and .u64 33 63 = 33 := by decide +kernel
  have e2 := rot33 hx hy
  rw [hy]
  clear hy hx
  go_enter Try.func10, Try.ntmps10
  go_wp2
  go_ret
  exact ⟨rfl, rfl⟩
set_option maxRecDepth 100000 in
set_option maxHeartbeats 4000000 in
theorem mixed_any (x : Nat) (w : World) (hx : x < 18446744073709551616) : Calls Try.prog 12 #[.int .u64 x] w fun e w' => e = .returned (.int .u64 ((mixN x : Nat) : Int)) ∧ w' = w := by
  obtain ⟨a, ha⟩ : ∃ y, x ^^^ (x / 8589934592) = y := ⟨_, rfl⟩
  have e1 := xorShr hx ha
  obtain ⟨b, hb⟩ : ∃ y, mulN a 18397679294719823053 = y := ⟨_, rfl⟩
  have e2 := mulE hb
  have b2 : b < 18446744073709551616 := by rw [← hb]; exact mulN_lt _ _
  obtain ⟨c, hc⟩ : ∃ y, b ^^^ (b / 8589934592) = y := ⟨_, rfl⟩
  have e3 := xorShr b2 hc
  obtain ⟨d, hd⟩ : ∃ y, mulN c 14181476777654086739 = y := ⟨_, rfl⟩
  have e4 := mulF hd
  have b4 : d < 18446744073709551616 := by rw [← hd]; exact mulN_lt _ _
  obtain ⟨y, hy⟩ : ∃ y, d ^^^ (d / 8589934592) = y := ⟨_, rfl⟩
  have e5 := xorShr b4 hy
  have h : mixN x = y := by rw [mixN, ha, hb, hc, hd, hy]
  rw [h]
  clear ha hb hc hd hy h hx b2 b4
  go_enter Try.func12, Try.ntmps12
  go_wp2
  go_ret
  exact ⟨rfl, rfl⟩
set_option maxRecDepth 100000 in
set_option maxHeartbeats 4000000 in
theorem fmix_any (x : Nat) (w : World) (hx : x < 18446744073709551616) : Calls Try.prog 37 #[.int .u64 x] w fun e w' => e = .returned (.int .u64 ((mixN x : Nat) : Int)) ∧ w' = w := by
  obtain ⟨a, ha⟩ : ∃ y, x ^^^ (x / 8589934592) = y := ⟨_, rfl⟩
  have e1 := xorShr hx ha
  obtain ⟨b, hb⟩ : ∃ y, mulN a 18397679294719823053 = y := ⟨_, rfl⟩
  have e2 := mulE hb
  have b2 : b < 18446744073709551616 := by rw [← hb]; exact mulN_lt _ _
  obtain ⟨c, hc⟩ : ∃ y, b ^^^ (b / 8589934592) = y := ⟨_, rfl⟩
  have e3 := xorShr b2 hc
  obtain ⟨d, hd⟩ : ∃ y, mulN c 14181476777654086739 = y := ⟨_, rfl⟩
  have e4 := mulF hd
  have b4 : d < 18446744073709551616 := by rw [← hd]; exact mulN_lt _ _
  obtain ⟨y, hy⟩ : ∃ y, d ^^^ (d / 8589934592) = y := ⟨_, rfl⟩
  have e5 := xorShr b4 hy
  have h : mixN x = y := by rw [mixN, ha, hb, hc, hd, hy]
  rw [h]
  clear ha hb hc hd hy h hx b2 b4
  go_enter Try.func37, Try.ntmps37
  go_wp2
  go_ret
  exact ⟨rfl, rfl⟩
theorem le4 (z0 z1 z2 z3 : Nat) (b0 : z0 < 256) (b1 : z1 < 256) (b2 : z2 < 256) (b3 : z3 < 256) : bits .or .u32 (bits .or .u32 (bits .or .u32 (z0 : Int) ((z1 : Int) * 256)) ((z2 : Int) * 65536)) ((z3 : Int) * 16777216) = ((z0 + 256 * (z1 + 256 * (z2 + 256 * z3)) : Nat) : Int) := by
  have o1 := or_add 8 z1 z0 (by omega)
  have o2 := or_add 16 z2 (z0 + 2 ^ 8 * z1) (by omega)
  have o3 := or_add 24 z3 (z0 + 2 ^ 8 * z1 + 2 ^ 16 * z2) (by omega)
  rw [show ((z1 : Int) * 256) = ((2 ^ 8 * z1 : Nat) : Int) by omega, u32_or_nat _ _ (by omega) (by omega), o1,
    show ((z2 : Int) * 65536) = ((2 ^ 16 * z2 : Nat) : Int) by omega, u32_or_nat _ _ (by omega) (by omega), o2,
    show ((z3 : Int) * 16777216) = ((2 ^ 24 * z3 : Nat) : Int) by omega, u32_or_nat _ _ (by omega) (by omega), o3]
  omega
set_option maxRecDepth 100000 in
set_option maxHeartbeats 4000000 in
theorem le32_any (b o n c : Nat) (y0 y1 y2 y3 : UInt8) (t : List UInt8) (w : World) (hs : Src w b o (y0 :: y1 :: y2 :: y3 :: t)) (hn : (4 : Int) ≤ (n : Int)) :
    Calls Try.prog 43 #[.slice (some ⟨b, o, none⟩) n c] w fun e w' => e = .returned (.int .u32 ((leN [y0, y1, y2, y3] : Nat) : Int)) ∧ ∃ k, w' = w.drewN k := by
  have h0 : w.cell? ⟨b, o, none⟩ = some (.int .u8 (y0.toNat : Int)) := hs 0 _ rfl
  have h1 : w.cell? ⟨b, o + 1, none⟩ = some (.int .u8 (y1.toNat : Int)) := hs 1 _ rfl
  have h2 : w.cell? ⟨b, o + 2, none⟩ = some (.int .u8 (y2.toNat : Int)) := hs 2 _ rfl
  have h3 : w.cell? ⟨b, o + 3, none⟩ = some (.int .u8 (y3.toNat : Int)) := hs 3 _ rfl
  have b0 : y0.toNat < 256 := UInt8.toNat_lt _
  have b1 : y1.toNat < 256 := UInt8.toNat_lt _
  have b2 : y2.toNat < 256 := UInt8.toNat_lt _
  have b3 : y3.toNat < 256 := UInt8.toNat_lt _
  have e := le4 _ _ _ _ b0 b1 b2 b3
  have hl : leN [y0, y1, y2, y3] = y0.toNat + 256 * (y1.toNat + 256 * (y2.toNat + 256 * y3.toNat)) := by simp [leN]
  rw [← hl] at e
  clear hs hl
  generalize leN [y0, y1, y2, y3] = y at *
  generalize y0.toNat = z0 at *
  generalize y1.toNat = z1 at *
  generalize y2.toNat = z2 at *
  generalize y3.toNat = z3 at *
  go_enter Try.func43, Try.ntmps43
  go_wp2_with fail
  go_quiet (fail)
  go_wp2
  go_ret
  exact ⟨rfl, _, rfl⟩
end Go.Proofs.Ytodffcoeimcdaaa
