/- Contracts of package bitfield's functions (NewBitfield, SetBit, UnsetBit, Bytes), of the thin package's BitsSet, and of the law's helpers: for every field whose size is a multiple of 8 up to 2048 bits. -/
import Derived.Test.YtoebofppmkglfaaStd
import Derived.Laws.BitsAllLaws
import Derived.Deep.LoopGhost
import Derived.Outline
namespace Go.Proofs.Ytoebofppmkglfaa
open Go.RowKit

/-- It returns nothing; one block is turned, and reads as told. -/
structure Wrote (w : World) (g : Nat) (t : TypeId) (cs : Array Value) (r : Ending) (w' : World) : Prop where
  ret : r = .returned (.tuple #[])
  blk : Blk w' g t cs
  only : w.grownBy w' (some g)

def setb (xs : List UInt8) (i : Nat) : List UInt8 := xs.set (xs.length - i / 8 - 1) (xs.getD (xs.length - i / 8 - 1) 0 ||| UInt8.ofNat (2 ^ (i % 8)))
def unsetb (xs : List UInt8) (i : Nat) : List UInt8 := xs.set (xs.length - i / 8 - 1) (xs.getD (xs.length - i / 8 - 1) 0 &&& UInt8.ofNat (255 ^^^ 2 ^ (i % 8)))
theorem setb_length (xs : List UInt8) (i : Nat) : (setb xs i).length = xs.length := by simp [setb]
theorem unsetb_length (xs : List UInt8) (i : Nat) : (unsetb xs i).length = xs.length := by simp [unsetb]
theorem pow8 (i : Nat) : 2 ^ (i % 8) ≤ 128 := by
  have h : i % 8 < 8 := Nat.mod_lt _ (by omega)
  generalize i % 8 = k at h
  match k, h with
  | 0, _ | 1, _ | 2, _ | 3, _ | 4, _ | 5, _ | 6, _ | 7, _ => decide
theorem setb_num (b : UInt8) (i : Nat) : bits .or .u8 (b.toNat : Int) ((2 ^ (i % 8) : Nat) : Int) = ((b ||| UInt8.ofNat (2 ^ (i % 8))).toNat : Int) := by
  have h := pow8 i
  rw [u8_or_nat _ _ b.toNat_lt (by omega), UInt8.toNat_or, UInt8.toNat_ofNat_of_lt' (by show _ < 256; omega)]
theorem unsetb_num (b : UInt8) (i : Nat) : bits .and .u8 (b.toNat : Int) (bits .xor .u8 255 ((2 ^ (i % 8) : Nat) : Int)) = ((b &&& UInt8.ofNat (255 ^^^ 2 ^ (i % 8))).toNat : Int) := by
  have h := pow8 i
  have hx : 255 ^^^ 2 ^ (i % 8) < 256 := Nat.xor_lt_two_pow (n := 8) (by omega) (by omega)
  have h1 : bits .xor .u8 255 ((2 ^ (i % 8) : Nat) : Int) = ((255 ^^^ 2 ^ (i % 8) : Nat) : Int) := u8_xor_nat 255 _ (by omega) (by omega)
  rw [h1, u8_and_nat _ _ b.toNat_lt hx, UInt8.toNat_and, UInt8.toNat_ofNat_of_lt' (by show _ < 256; omega)]

theorem offset_any (A : Option Addr) (n c i : Nat) (w : World) (hn : n ≤ 4294967295) (hi : i / 8 < n) : Calls Try.prog 25 #[.slice A n c, .int .i64 i] w fun e w' =>
    e = .returned (.tuple #[.int .u64 ((n - i / 8 - 1 : Nat) : Int), .int .u8 ((i % 8 : Nat) : Int)]) ∧ w = w' := by
  go_enter Try.func25, Try.ntmps25
  go_wp2
  go_ret2
  refine ⟨?_, rfl⟩
  have h1 : ((n : Int) - (i : Int) / 8 - 1) = ((n - i / 8 - 1 : Nat) : Int) := by omega
  have h2 : ((i : Int) % 256 % 8) = ((i % 8 : Nat) : Int) := by omega
  simp [h1, h2]

theorem setBit_any (g m i : Nat) (xs : List UInt8) (w : World) (hb : Blk w g 5 (u8s xs).toArray) (hl : xs.length = m) (hm : m ≤ 100000) (hi : i < 8 * m) :
    Calls Try.prog 18 #[.slice (some ⟨g, 0, none⟩) m m, .int .i64 i] w (Wrote w g 5 (u8s (setb xs i)).toArray) := by
  have h1 : m - i / 8 - 1 < m := by omega
  have h2 : i / 8 < m := by omega
  have hc : w.cell? ⟨g, m - i / 8 - 1, none⟩ = some (.int .u8 ((xs.getD (m - i / 8 - 1) 0).toNat : Int)) := by
    rw [hb.cell, List.getElem?_toArray, u8s_at _ _ (by omega)]
    simp [List.getD_eq_getElem?_getD, List.getElem?_eq_getElem (show m - i / 8 - 1 < xs.length by omega)]
  have hf := hb.frozen (m - i / 8 - 1)
  have hbe : (Array.setIfInBounds (u8s xs).toArray (m - i / 8 - 1) (.int .u8 (bits .or .u8 ((xs.getD (m - i / 8 - 1) 0).toNat : Int) ((2 ^ (i % 8) : Nat) : Int)))) = (u8s (setb xs i)).toArray := by
    rw [setb_num, setb, hl]
    simp [u8s, List.map_set]
  have HB := Lib.hid (hb.set_ (m - i / 8 - 1) (.int .u8 (bits .or .u8 ((xs.getD (m - i / 8 - 1) 0).toNat : Int) ((2 ^ (i % 8) : Nat) : Int))))
  have HE := Lib.hid hbe
  have HP := Lib.hid (pow8 i)
  generalize xs.getD (m - i / 8 - 1) 0 = b at *
  clear hb hbe hl
  go_enter Try.func18, Try.ntmps18
  go_wp2_with (go_at_call 25; refine (offset_any _ _ _ _ _ (by omega) h2).mono ?_; rintro e w' ⟨rfl, rfl⟩)
  have hp : ((2 : Int) ^ (i % 8) % 256) = ((2 ^ (i % 8) : Nat) : Int) := by
    have h8 := HP.out
    rw [show ((2 : Int) ^ (i % 8)) = ((2 ^ (i % 8) : Nat) : Int) by simp]
    generalize (2 : Nat) ^ (i % 8) = p at h8 ⊢
    omega
  rw [hp]
  go_end0
  refine ⟨rfl, ?_, only_set _ _ _ _⟩
  rw [← HE.out]
  exact HB.out

theorem unsetBit_any (g m i : Nat) (xs : List UInt8) (w : World) (hb : Blk w g 5 (u8s xs).toArray) (hl : xs.length = m) (hm : m ≤ 100000) (hi : i < 8 * m) :
    Calls Try.prog 19 #[.slice (some ⟨g, 0, none⟩) m m, .int .i64 i] w (Wrote w g 5 (u8s (unsetb xs i)).toArray) := by
  have h1 : m - i / 8 - 1 < m := by omega
  have h2 : i / 8 < m := by omega
  have hc : w.cell? ⟨g, m - i / 8 - 1, none⟩ = some (.int .u8 ((xs.getD (m - i / 8 - 1) 0).toNat : Int)) := by
    rw [hb.cell, List.getElem?_toArray, u8s_at _ _ (by omega)]
    simp [List.getD_eq_getElem?_getD, List.getElem?_eq_getElem (show m - i / 8 - 1 < xs.length by omega)]
  have hf := hb.frozen (m - i / 8 - 1)
  have hbe : (Array.setIfInBounds (u8s xs).toArray (m - i / 8 - 1) (.int .u8 (bits .and .u8 ((xs.getD (m - i / 8 - 1) 0).toNat : Int) (bits .xor .u8 255 ((2 ^ (i % 8) : Nat) : Int))))) = (u8s (unsetb xs i)).toArray := by
    rw [unsetb_num, unsetb, hl]
    simp [u8s, List.map_set]
  have HB := Lib.hid (hb.set_ (m - i / 8 - 1) (.int .u8 (bits .and .u8 ((xs.getD (m - i / 8 - 1) 0).toNat : Int) (bits .xor .u8 255 ((2 ^ (i % 8) : Nat) : Int)))))
  have HE := Lib.hid hbe
  have HP := Lib.hid (pow8 i)
  generalize xs.getD (m - i / 8 - 1) 0 = b at *
  clear hb hbe hl
  go_enter Try.func19, Try.ntmps19
  go_wp2_with (go_at_call 25; refine (offset_any _ _ _ _ _ (by omega) h2).mono ?_; rintro e w' ⟨rfl, rfl⟩)
  have hp : ((2 : Int) ^ (i % 8) % 256) = ((2 ^ (i % 8) : Nat) : Int) := by
    have h8 := HP.out
    rw [show ((2 : Int) ^ (i % 8)) = ((2 ^ (i % 8) : Nat) : Int) by simp]
    generalize (2 : Nat) ^ (i % 8) = p at h8 ⊢
    omega
  rw [hp]
  go_end0
  refine ⟨rfl, ?_, only_set _ _ _ _⟩
  rw [← HE.out]
  exact HB.out

/-- Bytes: what is left behind the zeros at the head. -/
def bare (xs : List UInt8) : List UInt8 := xs.dropWhile (· == 0)
structure Rest (w : World) (B : Nat) (l : List UInt8) (r : Ending) (w' : World) : Prop where
  ex : ∃ A c, r = .returned (.slice A l.length c) ∧ Reads w B 1 A l.length (u8s l) ∧ (A = none ↔ l = []) ∧ (l = [] → c = 0)
  same : w = w'
theorem bare_at (xs : List UInt8) (k : Nat) (hk : k < xs.length) (h0 : ∀ j, j < k → xs.getD j 0 = 0) (h1 : xs.getD k 0 ≠ 0) : bare xs = xs.drop k := by
  induction k generalizing xs with
  | zero =>
    cases xs with
    | nil => simp at hk
    | cons x t => simp [bare, List.dropWhile_cons] at h1 ⊢; simp [h1]
  | succ k ih =>
    cases xs with
    | nil => simp at hk
    | cons x t =>
      have hx : x = 0 := by simpa using h0 0 (by omega)
      subst hx
      have := ih t (by simpa using hk) (fun j hj => by simpa using h0 (j + 1) (by omega)) (by simpa using h1)
      simpa [bare, List.dropWhile_cons] using this
theorem bare_none (xs : List UInt8) (h0 : ∀ j, j < xs.length → xs.getD j 0 = 0) : bare xs = [] := by
  induction xs with
  | nil => rfl
  | cons x t ih =>
    have hx : x = 0 := by simpa using h0 0 (by simp)
    subst hx
    have := ih (fun j hj => by simpa using h0 (j + 1) (by simpa using hj))
    simpa [bare, List.dropWhile_cons] using this

theorem bare_length (xs : List UInt8) : (bare xs).length ≤ xs.length := List.Sublist.length_le (List.dropWhile_sublist _)
theorem bytes_any (g m : Nat) (xs : List UInt8) (w : World) (hb : Blk w g 5 (u8s xs).toArray) (hl : xs.length = m) (hm : m ≤ 100000) :
    Calls Try.prog 21 #[.slice (some ⟨g, 0, none⟩) m m] w (Rest w w.heap.size (bare xs)) := by
  have HL := Lib.hid hl
  have HB := Lib.hid hb
  clear hl hb
  go_enter Try.func21, Try.ntmps21
  go_wp2
  go_loop [7] (fun i => ∃ k : Nat, k ≤ m ∧ i = .int .i64 k ∧ ∀ j, j < k → xs.getD j 0 = 0) (fun i => m - (intOf i).toNat)
  case atStart => exact ⟨0, Nat.zero_le _, rfl, fun j hj => absurd hj (by omega)⟩
  case round =>
    obtain ⟨k, hk, rfl, hz⟩ := hrel
    have HZ := Lib.hid hz
    clear hz
    by_cases hlt : k < m
    · have hc : w.cell? ⟨g, k, none⟩ = some (.int .u8 ((xs.getD k 0).toNat : Int)) := by
        have := HL.out
        rw [HB.out.cell, List.getElem?_toArray, u8s_at _ _ (by omega)]
        simp [List.getD_eq_getElem?_getD, List.getElem?_eq_getElem (show k < xs.length by omega)]
      by_cases h0 : xs.getD k 0 = 0
      · rw [h0] at hc
        have H0 := Lib.hid h0
        clear h0
        go_wp2
        go_round
        case rel =>
          refine ⟨k + 1, by omega, by go_num, fun j hj => ?_⟩
          by_cases e : j = k
          · rw [e]; exact H0.out
          · exact HZ.out j (by omega)
        case measure => simp [intOf]; omega
      · have hbare := bare_at xs k (by have := HL.out; omega) HZ.out h0
        have hcut := HB.out.reads_from k (by simp [u8s_length, HL.out]; omega)
        generalize xs.getD k 0 = b at hc h0
        have hne' : (((b.toNat : Nat) : Int) != 0) = true := by
          have : b.toNat ≠ 0 := fun e => h0 (UInt8.toNat_inj.1 (by simpa using e))
          simp only [bne_iff_ne, ne_eq]; omega
        have HBR := Lib.hid hbare
        have HC := Lib.hid hcut
        clear hbare hcut h0
        go_wp2
        go_ret
        refine ⟨⟨some ⟨g, k, none⟩, m - k, ?_, ?_, ?_, ?_⟩, rfl⟩
        · have := HL.out
          simp [HBR.out, this]
        · have h := HC.out
          rw [HBR.out, u8s_drop]
          simpa [u8s_length] using h
        · have := HL.out
          simp [HBR.out]; omega
        · have := HL.out
          simp [HBR.out]; omega
    · go_wp2
      go_ret
      have hbare := bare_none xs (fun j hj => HZ.out j (by have := HL.out; omega))
      exact ⟨⟨none, 0, by rw [hbare]; rfl, by rw [hbare]; exact Reads.none_, by simp [hbare], fun _ => rfl⟩, rfl⟩
end Go.Proofs.Ytoebofppmkglfaa
