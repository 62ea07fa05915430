/- gobase32: words for decode. -/
import Derived.Deep.CutBlock
import Derived.Test.YtijbdinemjiepaaB32H
namespace Go.Proofs.Ytijbdinemjiepaa
open Go.RowKit Go.Lib

theorem or_hi (i a c : Nat) (hc : c < 2 ^ i) (h : 2 ^ i * a + c < 256) : bits .or .u8 ((2 ^ i * a : Nat) : Int) (c : Int) = ((2 ^ i * a + c : Nat) : Int) := by
  rw [u8_or_nat (2 ^ i * a) c (by omega) (by omega), ← Nat.two_pow_add_eq_or_of_lt hc]
theorem pk4 {k6 k7 z : Nat} (hz : z < 256) (h1 : k6 % 8 = z / 32) (h2 : k7 = z % 32) : bits .or .u8 ((k6 : Int) * 32 % 256) (k7 : Int) = (z : Int) := by
  have h := or_hi 5 (k6 % 8) k7 (by omega) (by omega)
  rw [show ((k6 : Int) * 32 % 256) = ((2 ^ 5 * (k6 % 8) : Nat) : Int) by omega, h]
  omega
theorem pk3 {k4 k5 k6 z : Nat} (hz : z < 256) (h1 : k4 % 2 = z / 128) (h2 : k5 = z / 4 % 32) (h3 : k6 / 8 = z % 4) : bits .or .u8 (bits .or .u8 ((k4 : Int) * 128 % 256) ((k5 : Int) * 4 % 256)) ((k6 : Int) / 8) = (z : Int) := by
  have h := or_hi 7 (k4 % 2) (4 * k5) (by omega) (by omega)
  have h' := or_hi 2 (32 * (k4 % 2) + k5) (k6 / 8) (by omega) (by omega)
  rw [show ((k4 : Int) * 128 % 256) = ((2 ^ 7 * (k4 % 2) : Nat) : Int) by omega, show ((k5 : Int) * 4 % 256) = ((4 * k5 : Nat) : Int) by omega, h, show ((2 ^ 7 * (k4 % 2) + 4 * k5 : Nat) : Int) = ((2 ^ 2 * (32 * (k4 % 2) + k5) : Nat) : Int) by omega, show ((k6 : Int) / 8) = ((k6 / 8 : Nat) : Int) by omega, h']
  omega
theorem pk2 {k3 k4 z : Nat} (hz : z < 256) (h1 : k3 % 16 = z / 16) (h2 : k4 / 2 = z % 16) : bits .or .u8 ((k3 : Int) * 16 % 256) ((k4 : Int) / 2) = (z : Int) := by
  have h := or_hi 4 (k3 % 16) (k4 / 2) (by omega) (by omega)
  rw [show ((k3 : Int) * 16 % 256) = ((2 ^ 4 * (k3 % 16) : Nat) : Int) by omega, show ((k4 : Int) / 2) = ((k4 / 2 : Nat) : Int) by omega, h]
  omega
theorem pk1 {k1 k2 k3 z : Nat} (hz : z < 256) (h1 : k1 % 4 = z / 64) (h2 : k2 = z / 2 % 32) (h3 : k3 / 16 = z % 2) : bits .or .u8 (bits .or .u8 ((k1 : Int) * 64 % 256) ((k2 : Int) * 2 % 256)) ((k3 : Int) / 16) = (z : Int) := by
  have h := or_hi 6 (k1 % 4) (2 * k2) (by omega) (by omega)
  have h' := or_hi 1 (32 * (k1 % 4) + k2) (k3 / 16) (by omega) (by omega)
  rw [show ((k1 : Int) * 64 % 256) = ((2 ^ 6 * (k1 % 4) : Nat) : Int) by omega, show ((k2 : Int) * 2 % 256) = ((2 * k2 : Nat) : Int) by omega, h, show ((2 ^ 6 * (k1 % 4) + 2 * k2 : Nat) : Int) = ((2 ^ 1 * (32 * (k1 % 4) + k2) : Nat) : Int) by omega, show ((k3 : Int) / 16) = ((k3 / 16 : Nat) : Int) by omega, h']
  omega
theorem pk0 {k0 k1 z : Nat} (hz : z < 256) (h1 : k0 = z / 8) (h2 : k1 / 4 = z % 8) : bits .or .u8 ((k0 : Int) * 8 % 256) ((k1 : Int) / 4) = (z : Int) := by
  have h := or_hi 3 k0 (k1 / 4) (by omega) (by omega)
  rw [show ((k0 : Int) * 8 % 256) = ((2 ^ 3 * k0 : Nat) : Int) by omega, show ((k1 : Int) / 4) = ((k1 / 4 : Nat) : Int) by omega, h]
  omega
/-- The eight digits of a group, in their buffer. -/
structure DB (w : World) (d : Nat) (f : Nat → Nat) : Prop where
  lt : d < w.heap.size
  at_ : ∀ j, j < 8 → w.cell? ⟨d, j, none⟩ = some (.int .u8 (f j : Nat)) ∧ w.frozen? ⟨d, j, none⟩ = false
theorem DB.set {w : World} {d : Nat} {f : Nat → Nat} (h : DB w d f) (j k : Nat) (hj : j < 8) : DB (w.setCell ⟨d, j, none⟩ (.int .u8 (k : Nat))) d (upd f j k) := by
  refine ⟨by simpa [World.setCell] using h.lt, fun i hi => ⟨?_, ?_⟩⟩
  · by_cases hij : i = j
    · subst hij
      rw [World.cell?_setCell_same' _ _ _ (by rw [(h.at_ i hj).1]; rfl)]
      simp [upd]
    · rw [World.cell?_setCell_other _ (a := ⟨d, j, none⟩) (b := ⟨d, i, none⟩) (h := fun e => hij (by injection e with _ e2; exact e2.symm)), (h.at_ i hi).1, upd, if_neg hij]
  · rw [World.frozen?_setCell]
    exact (h.at_ i hi).2
theorem only_new {a b c : World} {g d : Nat} (h : a.grownBy b (some g)) (k : b.grownBy c (some d)) (hd : a.heap.size ≤ d) : a.grownBy c (some g) :=
  ⟨k.os.trans h.os, k.tape.trans h.tape, k.output.trans h.output, Nat.le_trans h.size k.size, fun i hi hne => (k.block i (Nat.lt_of_lt_of_le hi h.size) (fun e => by injection e with e; omega)).trans (h.block i hi hne)⟩
theorem ByRow.past {w w' : World} {g d : Nat} {L : List UInt8} (h : ByRow w g L) (hg : w.grownBy w' (some d)) (hne : g ≠ d) : ByRow w' g L :=
  ⟨Nat.lt_of_lt_of_le h.lt hg.size, fun j x hx => by
    have e := hg.block g h.lt (fun e => hne (by injection e))
    exact ⟨(World.cell?_of_block (w := w) e).trans (h.at_ j x hx).1, (World.frozen?_of_block (w := w) e).trans (h.at_ j x hx).2⟩⟩
theorem EncAt.past {w w' : World} {p d : Nat} (h : EncAt w p) (hg : w.grownBy w' (some d)) (hne : p ≠ d) : EncAt w' p := Blk.grown h hg (fun e => hne (by injection e))
theorem EncAt.dig {w : World} {p : Nat} (h : EncAt w p) (k : Nat) (hk : k < 32) : w.cell? ⟨p, 1 + (letter k).toNat, none⟩ = some (.int .u8 (k : Nat)) := by
  rw [Nat.add_comm, Blk.cell h, enc_at _ _ _ _ (UInt8.toNat_lt _), dm_letter k hk]
theorem EncAt.pd {w : World} {p : Nat} (h : EncAt w p) : w.cell? ⟨p, 257, none⟩ = some (.int .i32 (-1)) := (Blk.cell h 257).trans (enc_pad _ _ _)
theorem letter_far (k : Nat) (hk : k < 32) : (letter k).toNat ≠ 255 ∧ (letter k).toNat < 256 := (show ∀ k, k < 32 → (letter k).toNat ≠ 255 ∧ (letter k).toNat < 256 by decide) k hk
theorem put1 (M R : List UInt8) (i : Nat) (x0 : UInt8) (T : List UInt8) (hM : i + 1 ≤ M.length) (ht : M.take i = R.take i) (hR : R.drop i = x0 :: T) : ((M).set (i) x0).take (i + 1) = R.take (i + 1) := by
  refine List.ext_getElem? fun k => ?_
  rw [List.getElem?_take, List.getElem?_take]
  by_cases hk : k < i + 1
  · rw [if_pos hk, if_pos hk]
    rcases Nat.lt_or_ge k i with h | h
    · have h1 := congrArg (fun l => l[k]?) ht
      simp only [List.getElem?_take, if_pos h] at h1
      repeat rw [List.getElem?_set_ne (by omega)]
      exact h1
    · obtain ⟨d, rfl⟩ := Nat.exists_eq_add_of_le h
      have h1 : R[i + d]? = (x0 :: T)[d]? := by rw [← hR, List.getElem?_drop]
      rw [h1]
      obtain rfl : d = 0 := by omega
      all_goals
        simp [List.getElem?_set]
        try omega
  · rw [if_neg hk, if_neg hk]
theorem put2 (M R : List UInt8) (i : Nat) (x0 x1 : UInt8) (T : List UInt8) (hM : i + 2 ≤ M.length) (ht : M.take i = R.take i) (hR : R.drop i = x0 :: x1 :: T) : (((M).set (i + 1) x1).set (i) x0).take (i + 2) = R.take (i + 2) := by
  refine List.ext_getElem? fun k => ?_
  rw [List.getElem?_take, List.getElem?_take]
  by_cases hk : k < i + 2
  · rw [if_pos hk, if_pos hk]
    rcases Nat.lt_or_ge k i with h | h
    · have h1 := congrArg (fun l => l[k]?) ht
      simp only [List.getElem?_take, if_pos h] at h1
      repeat rw [List.getElem?_set_ne (by omega)]
      exact h1
    · obtain ⟨d, rfl⟩ := Nat.exists_eq_add_of_le h
      have h1 : R[i + d]? = (x0 :: x1 :: T)[d]? := by rw [← hR, List.getElem?_drop]
      rw [h1]
      obtain rfl | rfl : d = 0 ∨ d = 1 := by omega
      all_goals
        simp [List.getElem?_set]
        try omega
  · rw [if_neg hk, if_neg hk]
theorem put3 (M R : List UInt8) (i : Nat) (x0 x1 x2 : UInt8) (T : List UInt8) (hM : i + 3 ≤ M.length) (ht : M.take i = R.take i) (hR : R.drop i = x0 :: x1 :: x2 :: T) : ((((M).set (i + 2) x2).set (i + 1) x1).set (i) x0).take (i + 3) = R.take (i + 3) := by
  refine List.ext_getElem? fun k => ?_
  rw [List.getElem?_take, List.getElem?_take]
  by_cases hk : k < i + 3
  · rw [if_pos hk, if_pos hk]
    rcases Nat.lt_or_ge k i with h | h
    · have h1 := congrArg (fun l => l[k]?) ht
      simp only [List.getElem?_take, if_pos h] at h1
      repeat rw [List.getElem?_set_ne (by omega)]
      exact h1
    · obtain ⟨d, rfl⟩ := Nat.exists_eq_add_of_le h
      have h1 : R[i + d]? = (x0 :: x1 :: x2 :: T)[d]? := by rw [← hR, List.getElem?_drop]
      rw [h1]
      obtain rfl | rfl | rfl : d = 0 ∨ d = 1 ∨ d = 2 := by omega
      all_goals
        simp [List.getElem?_set]
        try omega
  · rw [if_neg hk, if_neg hk]
theorem put4 (M R : List UInt8) (i : Nat) (x0 x1 x2 x3 : UInt8) (T : List UInt8) (hM : i + 4 ≤ M.length) (ht : M.take i = R.take i) (hR : R.drop i = x0 :: x1 :: x2 :: x3 :: T) : (((((M).set (i + 3) x3).set (i + 2) x2).set (i + 1) x1).set (i) x0).take (i + 4) = R.take (i + 4) := by
  refine List.ext_getElem? fun k => ?_
  rw [List.getElem?_take, List.getElem?_take]
  by_cases hk : k < i + 4
  · rw [if_pos hk, if_pos hk]
    rcases Nat.lt_or_ge k i with h | h
    · have h1 := congrArg (fun l => l[k]?) ht
      simp only [List.getElem?_take, if_pos h] at h1
      repeat rw [List.getElem?_set_ne (by omega)]
      exact h1
    · obtain ⟨d, rfl⟩ := Nat.exists_eq_add_of_le h
      have h1 : R[i + d]? = (x0 :: x1 :: x2 :: x3 :: T)[d]? := by rw [← hR, List.getElem?_drop]
      rw [h1]
      obtain rfl | rfl | rfl | rfl : d = 0 ∨ d = 1 ∨ d = 2 ∨ d = 3 := by omega
      all_goals
        simp [List.getElem?_set]
        try omega
  · rw [if_neg hk, if_neg hk]
theorem put5 (M R : List UInt8) (i : Nat) (x0 x1 x2 x3 x4 : UInt8) (T : List UInt8) (hM : i + 5 ≤ M.length) (ht : M.take i = R.take i) (hR : R.drop i = x0 :: x1 :: x2 :: x3 :: x4 :: T) : ((((((M).set (i + 4) x4).set (i + 3) x3).set (i + 2) x2).set (i + 1) x1).set (i) x0).take (i + 5) = R.take (i + 5) := by
  refine List.ext_getElem? fun k => ?_
  rw [List.getElem?_take, List.getElem?_take]
  by_cases hk : k < i + 5
  · rw [if_pos hk, if_pos hk]
    rcases Nat.lt_or_ge k i with h | h
    · have h1 := congrArg (fun l => l[k]?) ht
      simp only [List.getElem?_take, if_pos h] at h1
      repeat rw [List.getElem?_set_ne (by omega)]
      exact h1
    · obtain ⟨d, rfl⟩ := Nat.exists_eq_add_of_le h
      have h1 : R[i + d]? = (x0 :: x1 :: x2 :: x3 :: x4 :: T)[d]? := by rw [← hR, List.getElem?_drop]
      rw [h1]
      obtain rfl | rfl | rfl | rfl | rfl : d = 0 ∨ d = 1 ∨ d = 2 ∨ d = 3 ∨ d = 4 := by omega
      all_goals
        simp [List.getElem?_set]
        try omega
  · rw [if_neg hk, if_neg hk]
/-- What decode's slots hold that are read from round to round. -/
structure Fd (a : Act) (v0 v1 v2 v6 v9 : Value) : Prop where
  size : a.tmps.size = 241
  defers : a.defers = []
  s0 : a.tmps.getD 0 undef = v0
  s1 : a.tmps.getD 1 undef = v1
  s2 : a.tmps.getD 2 undef = v2
  s6 : a.tmps.getD 6 undef = v6
  s7 : a.tmps.getD 7 undef = .bool false
  s8 : a.tmps.getD 8 undef = .nilIface
  s9 : a.tmps.getD 9 undef = v9
set_option maxRecDepth 100000 in
theorem fd_frame (a : Act) (h : a.tmps.size = 241) (hd : a.defers = []) : ∃ u : Nat → Value, a = ⟨#[u 0, u 1, u 2, u 3, u 4, u 5, u 6, u 7, u 8, u 9, u 10, u 11, u 12, u 13, u 14, u 15, u 16, u 17, u 18, u 19, u 20, u 21, u 22, u 23, u 24, u 25, u 26, u 27, u 28, u 29, u 30, u 31, u 32, u 33, u 34, u 35, u 36, u 37, u 38, u 39, u 40, u 41, u 42, u 43, u 44, u 45, u 46, u 47, u 48, u 49, u 50, u 51, u 52, u 53, u 54, u 55, u 56, u 57, u 58, u 59, u 60, u 61, u 62, u 63, u 64, u 65, u 66, u 67, u 68, u 69, u 70, u 71, u 72, u 73, u 74, u 75, u 76, u 77, u 78, u 79, u 80, u 81, u 82, u 83, u 84, u 85, u 86, u 87, u 88, u 89, u 90, u 91, u 92, u 93, u 94, u 95, u 96, u 97, u 98, u 99, u 100, u 101, u 102, u 103, u 104, u 105, u 106, u 107, u 108, u 109, u 110, u 111, u 112, u 113, u 114, u 115, u 116, u 117, u 118, u 119, u 120, u 121, u 122, u 123, u 124, u 125, u 126, u 127, u 128, u 129, u 130, u 131, u 132, u 133, u 134, u 135, u 136, u 137, u 138, u 139, u 140, u 141, u 142, u 143, u 144, u 145, u 146, u 147, u 148, u 149, u 150, u 151, u 152, u 153, u 154, u 155, u 156, u 157, u 158, u 159, u 160, u 161, u 162, u 163, u 164, u 165, u 166, u 167, u 168, u 169, u 170, u 171, u 172, u 173, u 174, u 175, u 176, u 177, u 178, u 179, u 180, u 181, u 182, u 183, u 184, u 185, u 186, u 187, u 188, u 189, u 190, u 191, u 192, u 193, u 194, u 195, u 196, u 197, u 198, u 199, u 200, u 201, u 202, u 203, u 204, u 205, u 206, u 207, u 208, u 209, u 210, u 211, u 212, u 213, u 214, u 215, u 216, u 217, u 218, u 219, u 220, u 221, u 222, u 223, u 224, u 225, u 226, u 227, u 228, u 229, u 230, u 231, u 232, u 233, u 234, u 235, u 236, u 237, u 238, u 239, u 240], []⟩ := by
  obtain ⟨ts, ds⟩ := a
  subst hd
  obtain ⟨u, hu⟩ := frame_any ts _ h
  exact ⟨u, by rw [hu]; rfl⟩
set_option maxRecDepth 100000 in
theorem Fd.open_ {a : Act} {v0 v1 v2 v6 v9 : Value} (h : Fd a v0 v1 v2 v6 v9) : ∃ u : Nat → Value, a = ⟨#[v0, v1, v2, u 3, u 4, u 5, v6, .bool false, .nilIface, v9, u 10, u 11, u 12, u 13, u 14, u 15, u 16, u 17, u 18, u 19, u 20, u 21, u 22, u 23, u 24, u 25, u 26, u 27, u 28, u 29, u 30, u 31, u 32, u 33, u 34, u 35, u 36, u 37, u 38, u 39, u 40, u 41, u 42, u 43, u 44, u 45, u 46, u 47, u 48, u 49, u 50, u 51, u 52, u 53, u 54, u 55, u 56, u 57, u 58, u 59, u 60, u 61, u 62, u 63, u 64, u 65, u 66, u 67, u 68, u 69, u 70, u 71, u 72, u 73, u 74, u 75, u 76, u 77, u 78, u 79, u 80, u 81, u 82, u 83, u 84, u 85, u 86, u 87, u 88, u 89, u 90, u 91, u 92, u 93, u 94, u 95, u 96, u 97, u 98, u 99, u 100, u 101, u 102, u 103, u 104, u 105, u 106, u 107, u 108, u 109, u 110, u 111, u 112, u 113, u 114, u 115, u 116, u 117, u 118, u 119, u 120, u 121, u 122, u 123, u 124, u 125, u 126, u 127, u 128, u 129, u 130, u 131, u 132, u 133, u 134, u 135, u 136, u 137, u 138, u 139, u 140, u 141, u 142, u 143, u 144, u 145, u 146, u 147, u 148, u 149, u 150, u 151, u 152, u 153, u 154, u 155, u 156, u 157, u 158, u 159, u 160, u 161, u 162, u 163, u 164, u 165, u 166, u 167, u 168, u 169, u 170, u 171, u 172, u 173, u 174, u 175, u 176, u 177, u 178, u 179, u 180, u 181, u 182, u 183, u 184, u 185, u 186, u 187, u 188, u 189, u 190, u 191, u 192, u 193, u 194, u 195, u 196, u 197, u 198, u 199, u 200, u 201, u 202, u 203, u 204, u 205, u 206, u 207, u 208, u 209, u 210, u 211, u 212, u 213, u 214, u 215, u 216, u 217, u 218, u 219, u 220, u 221, u 222, u 223, u 224, u 225, u 226, u 227, u 228, u 229, u 230, u 231, u 232, u 233, u 234, u 235, u 236, u 237, u 238, u 239, u 240], []⟩ := by
  obtain ⟨u, rfl⟩ := fd_frame a h.size h.defers
  have h0 : u 0 = _ := h.s0
  have h1 : u 1 = _ := h.s1
  have h2 : u 2 = _ := h.s2
  have h6 : u 6 = _ := h.s6
  have h7 : u 7 = _ := h.s7
  have h8 : u 8 = _ := h.s8
  have h9 : u 9 = _ := h.s9
  exact ⟨u, by rw [h0, h1, h2, h6, h7, h8, h9]⟩
set_option maxRecDepth 100000 in
theorem Fd.open3 {a : Act} {v0 v1 v2 v6 v9 v10 v11 : Value} (h : Fd a v0 v1 v2 v6 v9) (h10 : a.tmps.getD 10 undef = v10) (h11 : a.tmps.getD 11 undef = v11) : ∃ u : Nat → Value, a = ⟨#[v0, v1, v2, u 3, u 4, u 5, v6, .bool false, .nilIface, v9, v10, v11, u 12, u 13, u 14, u 15, u 16, u 17, u 18, u 19, u 20, u 21, u 22, u 23, u 24, u 25, u 26, u 27, u 28, u 29, u 30, u 31, u 32, u 33, u 34, u 35, u 36, u 37, u 38, u 39, u 40, u 41, u 42, u 43, u 44, u 45, u 46, u 47, u 48, u 49, u 50, u 51, u 52, u 53, u 54, u 55, u 56, u 57, u 58, u 59, u 60, u 61, u 62, u 63, u 64, u 65, u 66, u 67, u 68, u 69, u 70, u 71, u 72, u 73, u 74, u 75, u 76, u 77, u 78, u 79, u 80, u 81, u 82, u 83, u 84, u 85, u 86, u 87, u 88, u 89, u 90, u 91, u 92, u 93, u 94, u 95, u 96, u 97, u 98, u 99, u 100, u 101, u 102, u 103, u 104, u 105, u 106, u 107, u 108, u 109, u 110, u 111, u 112, u 113, u 114, u 115, u 116, u 117, u 118, u 119, u 120, u 121, u 122, u 123, u 124, u 125, u 126, u 127, u 128, u 129, u 130, u 131, u 132, u 133, u 134, u 135, u 136, u 137, u 138, u 139, u 140, u 141, u 142, u 143, u 144, u 145, u 146, u 147, u 148, u 149, u 150, u 151, u 152, u 153, u 154, u 155, u 156, u 157, u 158, u 159, u 160, u 161, u 162, u 163, u 164, u 165, u 166, u 167, u 168, u 169, u 170, u 171, u 172, u 173, u 174, u 175, u 176, u 177, u 178, u 179, u 180, u 181, u 182, u 183, u 184, u 185, u 186, u 187, u 188, u 189, u 190, u 191, u 192, u 193, u 194, u 195, u 196, u 197, u 198, u 199, u 200, u 201, u 202, u 203, u 204, u 205, u 206, u 207, u 208, u 209, u 210, u 211, u 212, u 213, u 214, u 215, u 216, u 217, u 218, u 219, u 220, u 221, u 222, u 223, u 224, u 225, u 226, u 227, u 228, u 229, u 230, u 231, u 232, u 233, u 234, u 235, u 236, u 237, u 238, u 239, u 240], []⟩ := by
  obtain ⟨u, rfl⟩ := h.open_
  have h10 : u 10 = _ := h10
  have h11 : u 11 = _ := h11
  exact ⟨u, by rw [h10, h11]⟩
set_option maxRecDepth 100000 in
theorem Fd.open4 {a : Act} {v0 v1 v2 v6 v9 v10 v11 v12 : Value} (h : Fd a v0 v1 v2 v6 v9) (h10 : a.tmps.getD 10 undef = v10) (h11 : a.tmps.getD 11 undef = v11) (h12 : a.tmps.getD 12 undef = v12) : ∃ u : Nat → Value, a = ⟨#[v0, v1, v2, u 3, u 4, u 5, v6, .bool false, .nilIface, v9, v10, v11, v12, u 13, u 14, u 15, u 16, u 17, u 18, u 19, u 20, u 21, u 22, u 23, u 24, u 25, u 26, u 27, u 28, u 29, u 30, u 31, u 32, u 33, u 34, u 35, u 36, u 37, u 38, u 39, u 40, u 41, u 42, u 43, u 44, u 45, u 46, u 47, u 48, u 49, u 50, u 51, u 52, u 53, u 54, u 55, u 56, u 57, u 58, u 59, u 60, u 61, u 62, u 63, u 64, u 65, u 66, u 67, u 68, u 69, u 70, u 71, u 72, u 73, u 74, u 75, u 76, u 77, u 78, u 79, u 80, u 81, u 82, u 83, u 84, u 85, u 86, u 87, u 88, u 89, u 90, u 91, u 92, u 93, u 94, u 95, u 96, u 97, u 98, u 99, u 100, u 101, u 102, u 103, u 104, u 105, u 106, u 107, u 108, u 109, u 110, u 111, u 112, u 113, u 114, u 115, u 116, u 117, u 118, u 119, u 120, u 121, u 122, u 123, u 124, u 125, u 126, u 127, u 128, u 129, u 130, u 131, u 132, u 133, u 134, u 135, u 136, u 137, u 138, u 139, u 140, u 141, u 142, u 143, u 144, u 145, u 146, u 147, u 148, u 149, u 150, u 151, u 152, u 153, u 154, u 155, u 156, u 157, u 158, u 159, u 160, u 161, u 162, u 163, u 164, u 165, u 166, u 167, u 168, u 169, u 170, u 171, u 172, u 173, u 174, u 175, u 176, u 177, u 178, u 179, u 180, u 181, u 182, u 183, u 184, u 185, u 186, u 187, u 188, u 189, u 190, u 191, u 192, u 193, u 194, u 195, u 196, u 197, u 198, u 199, u 200, u 201, u 202, u 203, u 204, u 205, u 206, u 207, u 208, u 209, u 210, u 211, u 212, u 213, u 214, u 215, u 216, u 217, u 218, u 219, u 220, u 221, u 222, u 223, u 224, u 225, u 226, u 227, u 228, u 229, u 230, u 231, u 232, u 233, u 234, u 235, u 236, u 237, u 238, u 239, u 240], []⟩ := by
  obtain ⟨u, rfl⟩ := h.open3 h10 h11
  have h12 : u 12 = _ := h12
  exact ⟨u, by rw [h12]⟩
theorem EncAt.past' {w w' : World} {p g : Nat} (h : EncAt w p) (hg : w.grownBy w' (some g)) (hne : p ≠ g) (hp : p < w.heap.size) : EncAt w' p := (hg.block p hp (fun e => hne (by injection e))).trans h
end Go.Proofs.Ytijbdinemjiepaa
