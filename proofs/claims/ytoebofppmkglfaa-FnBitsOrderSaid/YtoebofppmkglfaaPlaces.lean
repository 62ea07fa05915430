/- The contract of shardPlaces: the places of a field that numbers tell: sets, and unsets below 0. -/
import Derived.Test.YtoebofppmkglfaaInts
namespace Go.Proofs.Ytoebofppmkglfaa
open Go.RowKit

def placeOf (s z : Int) : Int := if 0 ≤ z then z % s else -1 - (-1 - z) % s
def places (s : Int) (zs : List Int) : List Int := zs.map (placeOf s)
theorem places_snoc (s : Int) (zs : List Int) (z : Int) : places s (zs ++ [z]) = places s zs ++ [placeOf s z] := by simp [places]

theorem shardPlaces_any (m : Nat) (A : Option Addr) (n c B : Nat) (zs : List Int) (w : World) (hr : Reads w B 1 A n (i16s zs)) (hB : B ≤ w.heap.size) (hm : 1 ≤ m) (hm2 : m ≤ 100000) (hn : n ≤ 3000) (hz : ∀ z ∈ zs, -32768 ≤ z ∧ z ≤ 32767) :
    Calls Try.prog 8 #[.int .i64 (8 * m), .slice A n c] w (Owns w 3 1 n (i64s (places (8 * m) zs))) := by
  obtain ⟨i0, hi, hz0, hz1, hz2⟩ := info_parts infoInt
  have hzn : zs.length = n := by have := hr.1; simp only [i16s_length, Nat.mul_one] at this; exact this
  have HZN := Lib.hid hzn
  have HR := Lib.hid hr
  have HZ := Lib.hid hz
  clear hzn hr hz
  go_enter Try.func8, Try.ntmps8
  go_wp2
  go_loopw [5, 10] (fun v i wr => ∃ j : Nat, j ≤ n ∧ i = .int .i64 j ∧ wr.ownsRow w.heap.size 3 1 v j (i64s (places (8 * m) (zs.take j))) ∧ Below w.heap.size w wr) (fun _ i _ => n - (intOf i).toNat)
  case atStart => exact ⟨0, Nat.zero_le _, rfl, World.ownsRow_nil _ _ _ _, Below.refl _ _⟩
  case round =>
    obtain ⟨j, hj, rfl, hown, hbw⟩ := hrel
    by_cases hlt : j < n
    · have hjz : j < zs.length := by have := HZN.out; omega
      obtain ⟨ad, u, rfl, _, hu, hcell⟩ := (HR.out.below (hbw.mono hB)).at_ hlt
      rw [i16s_at _ _ hjz] at hu
      obtain rfl := Option.some.inj hu
      obtain ⟨q1, q2⟩ := HZ.out zs[j] (List.getElem_mem hjz)
      have hts := Lib.hid (take_snoc zs j hjz)
      have HO := Lib.hid hown
      generalize zs[j] = z at hcell q1 q2 hts
      clear hu hown
      have b1 : j + 1 ≤ maxLen := by unfold maxLen; omega
      have b2 : (j + 1) * 8 ≤ 140737488355328 := by omega
      have b4 := hbw.size
      by_cases h0 : 0 ≤ z
      · go_wp2_with (at_builtin; refine wpList_append_one rfl (.tmp 16) (.tmp 21) 29 rfl w.heap.size i0 (.int .i64 0) 8 Try.underlying29 hi hz0 hz1 hz2 rfl _ j _ rfl HO.out rfl rfl b1 b2 b4 ?_; rintro v1 w1 hown1 hg1 _ _; have HO1 := Lib.hid hown1; clear hown1)
        go_roundw
        case rel =>
          refine ⟨j + 1, by omega, by go_num, ?_, hbw.grown hg1 hbw.size (own_base HO.out)⟩
          rw [hts.out, places_snoc, i64s_append, placeOf, if_pos h0]
          exact HO1.out
        case measure => simp [intOf]; omega
      · have m1 := Int.emod_nonneg (-1 - z) (show 8 * (m : Int) ≠ 0 by omega)
        have m2 := Int.emod_lt_of_pos (-1 - z) (show 0 < 8 * (m : Int) by omega)
        go_wp2_with (at_builtin; refine wpList_append_one rfl (.tmp 23) (.tmp 30) 29 rfl w.heap.size i0 (.int .i64 0) 8 Try.underlying29 hi hz0 hz1 hz2 rfl _ j _ rfl HO.out rfl rfl b1 b2 b4 ?_; rintro v1 w1 hown1 hg1 _ _; have HO1 := Lib.hid hown1; clear hown1)
        go_roundw
        case rel =>
          refine ⟨j + 1, by omega, by go_num, ?_, hbw.grown hg1 hbw.size (own_base HO.out)⟩
          rw [hts.out, places_snoc, i64s_append, placeOf, if_neg (by omega)]
          exact HO1.out
        case measure => simp [intOf]; omega
    · have HF := Lib.hid (show zs.take j = zs from List.take_of_length_le (by have := HZN.out; omega))
      rw [HF.out] at hown
      obtain rfl : n = j := by omega
      have HO := Lib.hid hown
      clear hown
      go_wp2
      go_ret
      exact ⟨⟨_, rfl, HO.out⟩, hbw⟩
end Go.Proofs.Ytoebofppmkglfaa
