/- Contracts of NewBitfield and of the thin package's BitsSet: of a size that is a multiple of 8 (up to 2048) and places in range it returns the bytes of the field behind all sets and unsets; of any other size of 16 bits it returns false. -/
import Derived.Test.YtoebofppmkglfaaBits
import Derived.Deep.QuietTactic
import Derived.BigQuiet
namespace Go.Proofs.Ytoebofppmkglfaa
open Go.RowKit

structure Bad1 (w : World) (r : Ending) (w' : World) : Prop where
  ex : ∃ t a, r = .returned (.tuple #[.slice none 0 0, .iface t (.pointer (some a))])
  below : Below w.heap.size w w'
theorem newBitfield_bad (n : Int) (w : World) (h : n < 0 ∨ n % 8 ≠ 0) (h1 : -32768 ≤ n) (h2 : n ≤ 32767) : Calls Try.prog 17 #[.int .i64 n] w (Bad1 w) := by
  by_cases h0 : n < 0
  · go_enter Try.func17, Try.ntmps17
    go_wp2_with (go_at_call 24; refine (errors_New _ _).mono ?_; rintro e w' ⟨rfl, rfl⟩)
    go_ret2
    exact ⟨⟨_, _, rfl⟩, below_one _ _⟩
  · have h3 : 0 ≤ n := by omega
    have h4 : ((n % 8 : Int) != 0) = true := by simp; omega
    clear h
    go_enter Try.func17, Try.ntmps17
    go_wp2_with (go_at_call 24; refine (errors_New _ _).mono ?_; rintro e w' ⟨rfl, rfl⟩)
    go_ret2
    exact ⟨⟨_, _, rfl⟩, below_one _ _⟩

theorem newBitfield_ok (m : Nat) (w : World) (h1 : m ≤ 100000) : Calls Try.prog 17 #[.int .i64 (8 * m)] w fun e w' =>
    e = .returned (.tuple #[.slice (some ⟨w.heap.size, 0, none⟩) m m, .nilIface]) ∧ w' = w.alloc (.cells (madeCells #[.int .u8 0] m) 5) := by
  have hmk := run_make_one (P := Try.prog) 23 5 (.int .u8 0) 1 Try.underlying23 infoU8 rfl m (by omega) (by omega)
  have h3 : ((8 * (m : Int)) % 8 != 0) = false := by simp
  have h4 : (8 * (m : Int)) / 8 = m := by omega
  have h5 : (0 : Int) ≤ 8 * (m : Int) := by omega
  go_enter Try.func17, Try.ntmps17
  go_wp2
  go_ret2
  exact ⟨rfl, rfl⟩

def stepb (xs : List UInt8) (z : Int) : List UInt8 := if 0 ≤ z then setb xs z.toNat else unsetb xs (-1 - z).toNat
def fieldOf (m : Nat) (zs : List Int) : List UInt8 := zs.foldl stepb (List.replicate m 0)
theorem stepb_length (xs : List UInt8) (z : Int) : (stepb xs z).length = xs.length := by
  unfold stepb; split <;> simp [setb_length, unsetb_length]
theorem foldl_stepb_length (zs : List Int) (xs : List UInt8) : (zs.foldl stepb xs).length = xs.length := by
  induction zs generalizing xs with
  | nil => rfl
  | cons z t ih => simp [ih, stepb_length]
theorem fieldOf_length (m : Nat) (zs : List Int) : (fieldOf m zs).length = m := by simp [fieldOf, foldl_stepb_length]
theorem fieldOf_snoc (m : Nat) (zs : List Int) (z : Int) : fieldOf m (zs ++ [z]) = stepb (fieldOf m zs) z := by simp [fieldOf]

structure BitsBad (w : World) (r : Ending) (w' : World) : Prop where
  ret : r = .returned (.tuple #[.slice none 0 0, .bool false])
  below : Below w.heap.size w w'
structure BitsOut (w : World) (l : List UInt8) (r : Ending) (w' : World) : Prop where
  ex : ∃ v, r = .returned (.tuple #[v, .bool true]) ∧ w'.ownsRow w.heap.size 5 1 v l.length (u8s l)
  below : Below w.heap.size w w'

theorem bitsSet_bad (n : Int) (A : Option Addr) (k c : Nat) (w : World) (h : n < 0 ∨ n % 8 ≠ 0) (h1 : -32768 ≤ n) (h2 : n ≤ 32767) : Calls Try.prog 6 #[.int .i64 n, .slice A k c] w (BitsBad w) := by
  go_enter Try.func6, Try.ntmps6
  go_wp2_with (go_at_call 17; refine (newBitfield_bad _ _ h h1 h2).mono ?_; rintro e w' ⟨⟨t, a, rfl⟩, hb⟩)
  go_ret2
  exact ⟨rfl, hb⟩

theorem bitsSet_ok (m : Nat) (A : Option Addr) (n c B : Nat) (zs : List Int) (w : World) (hr : Reads w B 1 A n (i64s zs)) (hB : B ≤ w.heap.size) (hm : m ≤ 100000) (hc : n ≤ 140737488355328)
    (hz : ∀ z ∈ zs, -(8 * (m : Int)) ≤ z ∧ z < 8 * (m : Int)) : Calls Try.prog 6 #[.int .i64 (8 * m), .slice A n c] w (BitsOut w (bare (fieldOf m zs))) := by
  have hn : zs.length = n := by have := hr.1; simp [i64s_length] at this; exact this
  have HN := Lib.hid hn
  have HR := Lib.hid hr
  have HZ := Lib.hid hz
  clear hn hr hz
  go_enter Try.func6, Try.ntmps6
  go_wp2_with (go_at_call 17; refine (newBitfield_ok _ _ hm).mono ?_; rintro e w' ⟨rfl, rfl⟩)
  go_loopw [19] (fun i wr => ∃ k : Nat, k ≤ n ∧ i = .int .i64 k ∧ Blk wr w.heap.size 5 (u8s (fieldOf m (zs.take k))).toArray ∧ Below w.heap.size w wr) (fun i _ => n - (intOf i).toNat)
  case atStart =>
    refine ⟨0, Nat.zero_le _, rfl, ?_, below_one _ _⟩
    have h := Blk.new w 5 (madeCells #[.int .u8 0] m)
    have e : (madeCells #[.int .u8 0] m) = (u8s (fieldOf m (zs.take 0))).toArray := by
      apply Array.toList_inj.1
      rw [madeCells_one]
      simp [fieldOf, u8s]
    rw [← e]
    exact h
  case round =>
    obtain ⟨k, hk, rfl, hblk, hbel⟩ := hrel
    by_cases hlt : k < n
    · have hkz : k < zs.length := by have := HN.out; omega
      obtain ⟨ad, u, rfl, _, hu, hcell⟩ := (HR.out.below (hbel.mono hB)).at_ hlt
      rw [i64s_at _ _ hkz] at hu
      obtain rfl := Option.some.inj hu
      obtain ⟨hz1, hz2⟩ := HZ.out zs[k] (List.getElem_mem hkz)
      have hsn := Lib.hid (fieldOf_snoc m (zs.take k) zs[k])
      have hts := Lib.hid (take_snoc zs k hkz)
      generalize zs[k] = z at hcell hz1 hz2 hsn hts
      have HBk := Lib.hid hblk
      clear hblk hu
      have hfl := Lib.hid (fieldOf_length m (zs.take k))
      by_cases h0 : 0 ≤ z
      · obtain ⟨i, rfl⟩ := Int.eq_ofNat_of_zero_le h0
        have hi : i < 8 * m := by omega
        go_wp2_with (go_at_call 18; refine (setBit_any _ _ _ _ _ HBk.out hfl.out hm hi).mono ?_; rintro e w' ⟨rfl, hb1, ho1⟩)
        go_roundw
        case rel =>
          refine ⟨k + 1, by omega, by go_num, ?_, hbel.grown ho1 hbel.size (by intro j hj; cases hj; omega)⟩
          rw [hts.out, hsn.out]
          simpa [stepb] using hb1
        case measure => simp [intOf]; omega
      · obtain ⟨i, hi⟩ : ∃ i : Nat, -1 - z = i := ⟨(-1 - z).toNat, by omega⟩
        have hi2 : i < 8 * m := by omega
        have HI := Lib.hid hi
        have HI2 := Lib.hid (show z = -1 - (i : Int) by omega)
        clear hi
        go_wp2_with (go_at_call 19; rw [HI.out]; refine (unsetBit_any _ _ _ _ _ HBk.out hfl.out hm hi2).mono ?_; rintro e w' ⟨rfl, hb1, ho1⟩)
        go_roundw
        case rel =>
          refine ⟨k + 1, by omega, by go_num, ?_, hbel.grown ho1 hbel.size (by intro j hj; cases hj; omega)⟩
          have hi := HI.out
          rw [hts.out, hsn.out]
          rw [stepb, if_neg (by omega), hi]
          exact hb1
        case measure => simp [intOf]; omega
    · have hkn : k = n := by omega
      have HK := Lib.hid (show zs.take k = zs from List.take_of_length_le (by have := HN.out; omega))
      have HBk := Lib.hid hblk
      have hfl := Lib.hid (fieldOf_length m zs)
      have hle : (bare (fieldOf m zs)).length ≤ 140737488355328 := by have h1 := bare_length (fieldOf m zs); have h2 := fieldOf_length m zs; omega
      clear hkn hblk
      rw [HK.out] at HBk
      go_wp2_with (first | (go_at_call 21; refine (bytes_any _ _ _ _ HBk.out hfl.out hm).mono ?_; rintro e w' ⟨⟨A1, c1, rfl, hr1, hnil, hc0⟩, rfl⟩; have HR1 := Lib.hid hr1; have HNIL := Lib.hid hnil; clear hr1 hnil hc0) | (go_at_call 20; refine (clone_u8 _ _ _ _ _ _ HR1.out (u8s_one _) hle (Nat.le_refl _)).mono ?_; rintro e w' ⟨⟨v, rfl, hown, _⟩, hb2⟩))
      go_ret2
      exact ⟨⟨v, rfl, own_more hown hbel.size⟩, hbel.trans (hb2.mono hbel.size)⟩
end Go.Proofs.Ytoebofppmkglfaa
