/- gobase32: words for Encode's rounds. -/
import Derived.Laws.BitsAllLaws
import Derived.Deep.LoopGhost
import Derived.Test.YtijbdinemjiepaaB32E
namespace Go.Proofs.Ytijbdinemjiepaa
open Go.RowKit Go.Lib

/-- What stands behind a region is proved once: a goal that many orders reach is held as one hypothesis. -/
theorem wp_hold {P : Program} {c : Code} {Q : Exit → Act → World → Prop} {a : Act} {w : World} {X : Prop} (h1 : Hid X → c.wp P Q a w) (h2 : X) : c.wp P Q a w := h1 (Lib.hid h2)
def slen : Value → Nat
  | .slice _ k _ => k
  | _ => 0
/-- Bytes that stand at a place. -/
def Src (w : World) (b o : Nat) (ys : List UInt8) : Prop := ∀ (j : Nat) (y : UInt8), ys[j]? = some y → w.cell? ⟨b, o + j, none⟩ = some (.int .u8 (y.toNat : Int))
theorem Src.past {w w' : World} {b o g : Nat} {ys : List UInt8} (h : Src w b o ys) (hg : w.grownBy w' (some g)) (hb : b < w.heap.size) (hne : b ≠ g) : Src w' b o ys := fun j y hy => (World.cell?_of_block (hg.block b hb (fun e => hne (by injection e)))).trans (h j y hy)
theorem src_of {w : World} {b o n : Nat} {B : Nat} {ys : List UInt8} (h : Reads w B 1 (some ⟨b, o, none⟩) n (u8s ys)) : Src w b o ys := fun j y hy => by
  have hj : j < ys.length := (List.getElem?_eq_some_iff.1 hy).1
  have hn : 0 < n := by have := h.1; rw [u8s_length] at this; omega
  obtain ⟨ad, e, _, hc⟩ := h.2 hn
  injection e with e
  subst e
  have := hc j (.int .u8 (y.toNat : Int)) (by rw [u8s_at _ _ hj, (List.getElem?_eq_some_iff.1 hy).2])
  rwa [add_plain] at this
theorem EncAt.str {w w' : World} {p g : Nat} (h : EncAt w p) (hg : w.grownBy w' (some g)) (hne : p ≠ g) : w'.cell? ⟨p, 0, none⟩ = some (.string abc) :=
  (World.cell?_of_block (hg.block p h.lt (fun e => hne (by injection e)))).trans ((h.cell 0).trans (enc_0 _ _ _))
theorem EncAt.pad {w w' : World} {p g : Nat} (h : EncAt w p) (hg : w.grownBy w' (some g)) (hne : p ≠ g) : w'.cell? ⟨p, 257, none⟩ = some (.int .i32 (-1)) :=
  (World.cell?_of_block (hg.block p h.lt (fun e => hne (by injection e)))).trans ((h.cell 257).trans (enc_pad _ _ _))
theorem abc_get (k : Nat) (h : k < abc.size) : ∃ x : UInt8, abc[k]'h = x ∧ letter k = x := by
  refine ⟨_, rfl, ?_⟩
  have h1 := abc_at k h
  rw [data_at abc k h] at h1
  exact (Option.some.inj h1).symm
theorem cut_src {w : World} {B n c k : Nat} {b o : Nat} {l : List UInt8} (h : Reads w B 1 (some ⟨b, o, none⟩) n (u8s l)) (hk : k ≤ n) (hnc : n ≤ c) : Reads w B 1 (if c = k then some ⟨b, o, none⟩ else some ⟨b, o + k, none⟩) (n - k) (u8s (l.drop k)) := by
  have h' := h.cut hk hnc
  rw [Nat.mul_one, ← u8s_drop] at h'
  simpa [add_plain] using h'
theorem or_lo (i a c : Nat) (hc : c < 2 ^ i) (h : 2 ^ i * a + c < 256) : bits .or .u8 (c : Int) ((2 ^ i * a : Nat) : Int) = ((2 ^ i * a + c : Nat) : Int) := by
  rw [u8_or_nat c (2 ^ i * a) (by omega) (by omega), Nat.or_comm, ← Nat.two_pow_add_eq_or_of_lt hc]
theorem and_31 (x : Nat) (h : x < 256) : bits .and .u8 (x : Int) 31 = ((x % 32 : Nat) : Int) := by
  have := u8_and_nat x 31 h (by omega)
  rwa [and31] at this
theorem dg6 {z4 z3 k : Nat} (h4 : z4 < 256) (hk : z3 % 4 * 8 + z4 / 32 = k) : bits .or .u8 ((z4 : Int) / 32) ((z3 : Int) * 8 % 32) = (k : Int) := by
  have h := or_lo 3 (z3 % 4) (z4 / 32) (by omega) (by omega)
  rw [show ((z4 : Int) / 32) = ((z4 / 32 : Nat) : Int) by omega, show ((z3 : Int) * 8 % 32) = ((2 ^ 3 * (z3 % 4) : Nat) : Int) by omega, h]
  omega
theorem dg4 {z3 z2 k : Nat} (h3 : z3 < 256) (hk : z2 % 16 * 2 + z3 / 128 = k) : bits .or .u8 ((z3 : Int) / 128) ((z2 : Int) * 2 % 32) = (k : Int) := by
  have h := or_lo 1 (z2 % 16) (z3 / 128) (by omega) (by omega)
  rw [show ((z3 : Int) / 128) = ((z3 / 128 : Nat) : Int) by omega, show ((z2 : Int) * 2 % 32) = ((2 ^ 1 * (z2 % 16) : Nat) : Int) by omega, h]
  omega
theorem dg3 {z2 z1 k : Nat} (h2 : z2 < 256) (hk : z1 % 2 * 16 + z2 / 16 = k) : bits .or .u8 ((z2 : Int) / 16) ((z1 : Int) * 16 % 32) = (k : Int) := by
  have h := or_lo 4 (z1 % 2) (z2 / 16) (by omega) (by omega)
  rw [show ((z2 : Int) / 16) = ((z2 / 16 : Nat) : Int) by omega, show ((z1 : Int) * 16 % 32) = ((2 ^ 4 * (z1 % 2) : Nat) : Int) by omega, h]
  omega
theorem dg1 {z1 z0 k : Nat} (h1 : z1 < 256) (hk : z0 % 8 * 4 + z1 / 64 = k) : bits .or .u8 ((z1 : Int) / 64) ((z0 : Int) * 4 % 32) = (k : Int) := by
  have h := or_lo 2 (z0 % 8) (z1 / 64) (by omega) (by omega)
  rw [show ((z1 : Int) / 64) = ((z1 / 64 : Nat) : Int) by omega, show ((z0 : Int) * 4 % 32) = ((2 ^ 2 * (z0 % 8) : Nat) : Int) by omega, h]
  omega
theorem dg3f {z2 z1 k : Nat} (h2 : z2 < 256) (hk : z1 % 2 * 16 + z2 / 16 = k) : bits .and .u8 (bits .or .u8 ((z2 : Int) / 16) ((z1 : Int) * 16 % 256)) 31 = (k : Int) := by
  have h := or_lo 4 (z1 % 16) (z2 / 16) (by omega) (by omega)
  rw [show ((z2 : Int) / 16) = ((z2 / 16 : Nat) : Int) by omega, show ((z1 : Int) * 16 % 256) = ((2 ^ 4 * (z1 % 16) : Nat) : Int) by omega, h, and_31 _ (by omega)]
  omega
theorem dg1f {z1 z0 k : Nat} (h1 : z1 < 256) (hk : z0 % 8 * 4 + z1 / 64 = k) : bits .and .u8 (bits .or .u8 ((z1 : Int) / 64) ((z0 : Int) * 4 % 256)) 31 = (k : Int) := by
  have h := or_lo 2 (z0 % 64) (z1 / 64) (by omega) (by omega)
  rw [show ((z1 : Int) / 64) = ((z1 / 64 : Nat) : Int) by omega, show ((z0 : Int) * 4 % 256) = ((2 ^ 2 * (z0 % 64) : Nat) : Int) by omega, h, and_31 _ (by omega)]
  omega
theorem dg3t {z2 z1 k : Nat} (h2 : z2 < 256) (hk : z1 % 2 * 16 + z2 / 16 = k) : bits .or .u8 ((z2 : Int) / 16 % 32) ((z1 : Int) * 16 % 32) = (k : Int) := by
  rw [show ((z2 : Int) / 16 % 32) = (z2 : Int) / 16 by omega]
  exact dg3 h2 hk
theorem dg1t {z1 z0 k : Nat} (h1 : z1 < 256) (hk : z0 % 8 * 4 + z1 / 64 = k) : bits .or .u8 ((z1 : Int) / 64 % 32) ((z0 : Int) * 4 % 32) = (k : Int) := by
  rw [show ((z1 : Int) / 64 % 32) = (z1 : Int) / 64 by omega]
  exact dg1 h1 hk
theorem dg0 {x : Int} {k : Nat} (hk : k < 256) (h : x = (k : Int)) : bits .or .u8 0 x = (k : Int) := by
  have := u8_or_nat 0 k (by omega) hk
  rw [h]
  simpa using this
/-- Eight letters set behind what was told. -/
theorem eight_set (M R : List UInt8) (i : Nat) (x0 x1 x2 x3 x4 x5 x6 x7 : UInt8) (T : List UInt8) (hM : i + 8 ≤ M.length) (ht : M.take i = R.take i) (hR : R.drop i = x0 :: x1 :: x2 :: x3 :: x4 :: x5 :: x6 :: x7 :: T) :
    ((((((((M.set (i + 7) x7).set (i + 6) x6).set (i + 5) x5).set (i + 4) x4).set (i + 3) x3).set (i + 2) x2).set (i + 1) x1).set i x0).take (i + 8) = R.take (i + 8) := by
  refine List.ext_getElem? fun k => ?_
  rw [List.getElem?_take, List.getElem?_take]
  by_cases hk : k < i + 8
  · rw [if_pos hk, if_pos hk]
    rcases Nat.lt_or_ge k i with h | h
    · have h1 := congrArg (fun l => l[k]?) ht
      simp only [List.getElem?_take, if_pos h] at h1
      repeat rw [List.getElem?_set_ne (by omega)]
      exact h1
    · obtain ⟨d, rfl⟩ := Nat.exists_eq_add_of_le h
      have h1 : R[i + d]? = (x0 :: x1 :: x2 :: x3 :: x4 :: x5 :: x6 :: x7 :: T)[d]? := by rw [← hR, List.getElem?_drop]
      rw [h1]
      obtain rfl | rfl | rfl | rfl | rfl | rfl | rfl | rfl : d = 0 ∨ d = 1 ∨ d = 2 ∨ d = 3 ∨ d = 4 ∨ d = 5 ∨ d = 6 ∨ d = 7 := by omega
      all_goals
        simp only [List.length_set, List.getElem?_set, Nat.add_zero, Nat.add_left_cancel_iff, Nat.reduceEqDiff, if_false, Nat.add_eq_left, Nat.left_eq_add, Nat.one_ne_zero]
        simp
        try omega
  · rw [if_neg hk, if_neg hk]
theorem tail_set2 (M R : List UInt8) (i : Nat) (x0 x1 : UInt8) (hM : M.length = i + 2) (ht : M.take i = R.take i) (hR : R.drop i = [x0, x1]) : ((M).set (i + 1) x1).set (i) x0 = R := by
  have hRl : R.length = i + 2 := by have h := congrArg List.length hR; rw [List.length_drop] at h; simp at h; omega
  refine List.ext_getElem? fun k => ?_
  by_cases hk : k < i + 2
  · rcases Nat.lt_or_ge k i with h | h
    · have h1 := congrArg (fun l => l[k]?) ht
      simp only [List.getElem?_take, if_pos h] at h1
      repeat rw [List.getElem?_set_ne (by omega)]
      exact h1
    · obtain ⟨d, rfl⟩ := Nat.exists_eq_add_of_le h
      have h1 : R[i + d]? = ([x0, x1] : List UInt8)[d]? := by rw [← hR, List.getElem?_drop]
      rw [h1]
      obtain rfl | rfl : d = 0 ∨ d = 1 := by omega
      all_goals
        simp only [List.length_set, List.getElem?_set, Nat.add_zero, if_false, Nat.add_eq_left, Nat.left_eq_add, Nat.one_ne_zero]
        simp
        try omega
  · rw [List.getElem?_eq_none (by simp only [List.length_set]; omega), List.getElem?_eq_none (by omega)]
theorem tail_set4 (M R : List UInt8) (i : Nat) (x0 x1 x2 x3 : UInt8) (hM : M.length = i + 4) (ht : M.take i = R.take i) (hR : R.drop i = [x0, x1, x2, x3]) : ((((M).set (i + 3) x3).set (i + 2) x2).set (i + 1) x1).set (i) x0 = R := by
  have hRl : R.length = i + 4 := by have h := congrArg List.length hR; rw [List.length_drop] at h; simp at h; omega
  refine List.ext_getElem? fun k => ?_
  by_cases hk : k < i + 4
  · rcases Nat.lt_or_ge k i with h | h
    · have h1 := congrArg (fun l => l[k]?) ht
      simp only [List.getElem?_take, if_pos h] at h1
      repeat rw [List.getElem?_set_ne (by omega)]
      exact h1
    · obtain ⟨d, rfl⟩ := Nat.exists_eq_add_of_le h
      have h1 : R[i + d]? = ([x0, x1, x2, x3] : List UInt8)[d]? := by rw [← hR, List.getElem?_drop]
      rw [h1]
      obtain rfl | rfl | rfl | rfl : d = 0 ∨ d = 1 ∨ d = 2 ∨ d = 3 := by omega
      all_goals
        simp only [List.length_set, List.getElem?_set, Nat.add_zero, Nat.add_left_cancel_iff, Nat.reduceEqDiff, if_false, Nat.add_eq_left, Nat.left_eq_add, Nat.one_ne_zero]
        simp
        try omega
  · rw [List.getElem?_eq_none (by simp only [List.length_set]; omega), List.getElem?_eq_none (by omega)]
theorem tail_set5 (M R : List UInt8) (i : Nat) (x0 x1 x2 x3 x4 : UInt8) (hM : M.length = i + 5) (ht : M.take i = R.take i) (hR : R.drop i = [x0, x1, x2, x3, x4]) : (((((M).set (i + 4) x4).set (i + 3) x3).set (i + 2) x2).set (i + 1) x1).set (i) x0 = R := by
  have hRl : R.length = i + 5 := by have h := congrArg List.length hR; rw [List.length_drop] at h; simp at h; omega
  refine List.ext_getElem? fun k => ?_
  by_cases hk : k < i + 5
  · rcases Nat.lt_or_ge k i with h | h
    · have h1 := congrArg (fun l => l[k]?) ht
      simp only [List.getElem?_take, if_pos h] at h1
      repeat rw [List.getElem?_set_ne (by omega)]
      exact h1
    · obtain ⟨d, rfl⟩ := Nat.exists_eq_add_of_le h
      have h1 : R[i + d]? = ([x0, x1, x2, x3, x4] : List UInt8)[d]? := by rw [← hR, List.getElem?_drop]
      rw [h1]
      obtain rfl | rfl | rfl | rfl | rfl : d = 0 ∨ d = 1 ∨ d = 2 ∨ d = 3 ∨ d = 4 := by omega
      all_goals
        simp only [List.length_set, List.getElem?_set, Nat.add_zero, Nat.add_left_cancel_iff, Nat.reduceEqDiff, if_false, Nat.add_eq_left, Nat.left_eq_add, Nat.one_ne_zero]
        simp
        try omega
  · rw [List.getElem?_eq_none (by simp only [List.length_set]; omega), List.getElem?_eq_none (by omega)]
theorem tail_set7 (M R : List UInt8) (i : Nat) (x0 x1 x2 x3 x4 x5 x6 : UInt8) (hM : M.length = i + 7) (ht : M.take i = R.take i) (hR : R.drop i = [x0, x1, x2, x3, x4, x5, x6]) : (((((((M).set (i + 6) x6).set (i + 5) x5).set (i + 4) x4).set (i + 3) x3).set (i + 2) x2).set (i + 1) x1).set (i) x0 = R := by
  have hRl : R.length = i + 7 := by have h := congrArg List.length hR; rw [List.length_drop] at h; simp at h; omega
  refine List.ext_getElem? fun k => ?_
  by_cases hk : k < i + 7
  · rcases Nat.lt_or_ge k i with h | h
    · have h1 := congrArg (fun l => l[k]?) ht
      simp only [List.getElem?_take, if_pos h] at h1
      repeat rw [List.getElem?_set_ne (by omega)]
      exact h1
    · obtain ⟨d, rfl⟩ := Nat.exists_eq_add_of_le h
      have h1 : R[i + d]? = ([x0, x1, x2, x3, x4, x5, x6] : List UInt8)[d]? := by rw [← hR, List.getElem?_drop]
      rw [h1]
      obtain rfl | rfl | rfl | rfl | rfl | rfl | rfl : d = 0 ∨ d = 1 ∨ d = 2 ∨ d = 3 ∨ d = 4 ∨ d = 5 ∨ d = 6 := by omega
      all_goals
        simp only [List.length_set, List.getElem?_set, Nat.add_zero, Nat.add_left_cancel_iff, Nat.reduceEqDiff, if_false, Nat.add_eq_left, Nat.left_eq_add, Nat.one_ne_zero]
        simp
        try omega
  · rw [List.getElem?_eq_none (by simp only [List.length_set]; omega), List.getElem?_eq_none (by omega)]
theorem row32_drop (l : List UInt8) (i : Nat) (h : 5 * i ≤ l.length) : (row32 l).drop (1 + 8 * i) = (enc5 (l.drop (5 * i))).map letter := by
  rw [enc5_drop l i h, Nat.add_comm 1]
  show ((enc5 l).map letter).drop (8 * i) = _
  rw [List.map_drop]
theorem frame_any (a : Array Value) (N : Nat) (h : a.size = N) : ∃ u : Nat → Value, a = ((List.range N).map u).toArray := by
  refine ⟨fun i => a.getD i undef, ?_⟩
  subst h
  apply Array.ext
  · simp
  · intro i h1 h2
    simp [Array.getD, h1]
/-- What Encode's slots hold that are read from round to round. -/
structure Fe (a : Act) (v0 v1 v2 : Value) : Prop where
  size : a.tmps.size = 302
  defers : a.defers = []
  s0 : a.tmps.getD 0 undef = v0
  s1 : a.tmps.getD 1 undef = v1
  s2 : a.tmps.getD 2 undef = v2
set_option maxRecDepth 100000 in
theorem fe_frame (a : Act) (h : a.tmps.size = 302) (hd : a.defers = []) : ∃ u : Nat → Value, a = ⟨#[u 0, u 1, u 2, u 3, u 4, u 5, u 6, u 7, u 8, u 9, u 10, u 11, u 12, u 13, u 14, u 15, u 16, u 17, u 18, u 19, u 20, u 21, u 22, u 23, u 24, u 25, u 26, u 27, u 28, u 29, u 30, u 31, u 32, u 33, u 34, u 35, u 36, u 37, u 38, u 39, u 40, u 41, u 42, u 43, u 44, u 45, u 46, u 47, u 48, u 49, u 50, u 51, u 52, u 53, u 54, u 55, u 56, u 57, u 58, u 59, u 60, u 61, u 62, u 63, u 64, u 65, u 66, u 67, u 68, u 69, u 70, u 71, u 72, u 73, u 74, u 75, u 76, u 77, u 78, u 79, u 80, u 81, u 82, u 83, u 84, u 85, u 86, u 87, u 88, u 89, u 90, u 91, u 92, u 93, u 94, u 95, u 96, u 97, u 98, u 99, u 100, u 101, u 102, u 103, u 104, u 105, u 106, u 107, u 108, u 109, u 110, u 111, u 112, u 113, u 114, u 115, u 116, u 117, u 118, u 119, u 120, u 121, u 122, u 123, u 124, u 125, u 126, u 127, u 128, u 129, u 130, u 131, u 132, u 133, u 134, u 135, u 136, u 137, u 138, u 139, u 140, u 141, u 142, u 143, u 144, u 145, u 146, u 147, u 148, u 149, u 150, u 151, u 152, u 153, u 154, u 155, u 156, u 157, u 158, u 159, u 160, u 161, u 162, u 163, u 164, u 165, u 166, u 167, u 168, u 169, u 170, u 171, u 172, u 173, u 174, u 175, u 176, u 177, u 178, u 179, u 180, u 181, u 182, u 183, u 184, u 185, u 186, u 187, u 188, u 189, u 190, u 191, u 192, u 193, u 194, u 195, u 196, u 197, u 198, u 199, u 200, u 201, u 202, u 203, u 204, u 205, u 206, u 207, u 208, u 209, u 210, u 211, u 212, u 213, u 214, u 215, u 216, u 217, u 218, u 219, u 220, u 221, u 222, u 223, u 224, u 225, u 226, u 227, u 228, u 229, u 230, u 231, u 232, u 233, u 234, u 235, u 236, u 237, u 238, u 239, u 240, u 241, u 242, u 243, u 244, u 245, u 246, u 247, u 248, u 249, u 250, u 251, u 252, u 253, u 254, u 255, u 256, u 257, u 258, u 259, u 260, u 261, u 262, u 263, u 264, u 265, u 266, u 267, u 268, u 269, u 270, u 271, u 272, u 273, u 274, u 275, u 276, u 277, u 278, u 279, u 280, u 281, u 282, u 283, u 284, u 285, u 286, u 287, u 288, u 289, u 290, u 291, u 292, u 293, u 294, u 295, u 296, u 297, u 298, u 299, u 300, u 301], []⟩ := by
  obtain ⟨ts, ds⟩ := a
  subst hd
  obtain ⟨u, hu⟩ := frame_any ts _ h
  exact ⟨u, by rw [hu]; rfl⟩
set_option maxRecDepth 100000 in
theorem Fe.open_ {a : Act} {v0 v1 v2 : Value} (h : Fe a v0 v1 v2) : ∃ u : Nat → Value, a = ⟨#[v0, v1, v2, u 3, u 4, u 5, u 6, u 7, u 8, u 9, u 10, u 11, u 12, u 13, u 14, u 15, u 16, u 17, u 18, u 19, u 20, u 21, u 22, u 23, u 24, u 25, u 26, u 27, u 28, u 29, u 30, u 31, u 32, u 33, u 34, u 35, u 36, u 37, u 38, u 39, u 40, u 41, u 42, u 43, u 44, u 45, u 46, u 47, u 48, u 49, u 50, u 51, u 52, u 53, u 54, u 55, u 56, u 57, u 58, u 59, u 60, u 61, u 62, u 63, u 64, u 65, u 66, u 67, u 68, u 69, u 70, u 71, u 72, u 73, u 74, u 75, u 76, u 77, u 78, u 79, u 80, u 81, u 82, u 83, u 84, u 85, u 86, u 87, u 88, u 89, u 90, u 91, u 92, u 93, u 94, u 95, u 96, u 97, u 98, u 99, u 100, u 101, u 102, u 103, u 104, u 105, u 106, u 107, u 108, u 109, u 110, u 111, u 112, u 113, u 114, u 115, u 116, u 117, u 118, u 119, u 120, u 121, u 122, u 123, u 124, u 125, u 126, u 127, u 128, u 129, u 130, u 131, u 132, u 133, u 134, u 135, u 136, u 137, u 138, u 139, u 140, u 141, u 142, u 143, u 144, u 145, u 146, u 147, u 148, u 149, u 150, u 151, u 152, u 153, u 154, u 155, u 156, u 157, u 158, u 159, u 160, u 161, u 162, u 163, u 164, u 165, u 166, u 167, u 168, u 169, u 170, u 171, u 172, u 173, u 174, u 175, u 176, u 177, u 178, u 179, u 180, u 181, u 182, u 183, u 184, u 185, u 186, u 187, u 188, u 189, u 190, u 191, u 192, u 193, u 194, u 195, u 196, u 197, u 198, u 199, u 200, u 201, u 202, u 203, u 204, u 205, u 206, u 207, u 208, u 209, u 210, u 211, u 212, u 213, u 214, u 215, u 216, u 217, u 218, u 219, u 220, u 221, u 222, u 223, u 224, u 225, u 226, u 227, u 228, u 229, u 230, u 231, u 232, u 233, u 234, u 235, u 236, u 237, u 238, u 239, u 240, u 241, u 242, u 243, u 244, u 245, u 246, u 247, u 248, u 249, u 250, u 251, u 252, u 253, u 254, u 255, u 256, u 257, u 258, u 259, u 260, u 261, u 262, u 263, u 264, u 265, u 266, u 267, u 268, u 269, u 270, u 271, u 272, u 273, u 274, u 275, u 276, u 277, u 278, u 279, u 280, u 281, u 282, u 283, u 284, u 285, u 286, u 287, u 288, u 289, u 290, u 291, u 292, u 293, u 294, u 295, u 296, u 297, u 298, u 299, u 300, u 301], []⟩ := by
  obtain ⟨u, rfl⟩ := fe_frame a h.size h.defers
  have h0 : u 0 = _ := h.s0
  have h1 : u 1 = _ := h.s1
  have h2 : u 2 = _ := h.s2
  exact ⟨u, by rw [h0, h1, h2]⟩
end Go.Proofs.Ytijbdinemjiepaa
