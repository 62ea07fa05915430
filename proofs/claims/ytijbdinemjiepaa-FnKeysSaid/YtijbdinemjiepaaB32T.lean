/- gobase32: the table of an encoding as it is made, and the encoding in memory. -/
import Derived.Deep.MidRow
import Derived.Deep.WholeRow
import Derived.Lib.Strings
import Derived.Test.YtijbdinemjiepaaProg
import Derived.Test.YtijbdinemjiepaaMem
namespace Go.Proofs.Ytijbdinemjiepaa
open Go.RowKit Go.Lib

/-- The cells of an encoding: its letters, its table, its padding. -/
def encRow (s : ByteArray) (f : Nat → Nat) (pad : Int) : List Value := .string s :: ((List.range 256).map (fun i => Value.int .u8 (f i : Nat)) ++ [.int .i32 pad])
def encCells (s : ByteArray) (f : Nat → Nat) (pad : Int) : Array Value := (encRow s f pad).toArray
def upd (f : Nat → Nat) (i v : Nat) : Nat → Nat := fun k => if k = i then v else f k
theorem encRow_length (s : ByteArray) (f : Nat → Nat) (pad : Int) : (encRow s f pad).length = 258 := by simp [encRow]
theorem encCells_size (s : ByteArray) (f : Nat → Nat) (pad : Int) : (encCells s f pad).size = 258 := encRow_length s f pad
theorem encRow_0 (s : ByteArray) (f : Nat → Nat) (pad : Int) : (encRow s f pad)[0]? = some (.string s) := rfl
theorem encRow_at (s : ByteArray) (f : Nat → Nat) (pad : Int) (i : Nat) (h : i < 256) : (encRow s f pad)[i + 1]? = some (.int .u8 (f i : Nat)) := by
  unfold encRow
  rw [List.getElem?_cons_succ, List.getElem?_append_left (by simp; omega), List.getElem?_map, List.getElem?_range h]
  rfl
theorem encRow_pad (s : ByteArray) (f : Nat → Nat) (pad : Int) : (encRow s f pad)[257]? = some (.int .i32 pad) := by
  unfold encRow
  rw [List.getElem?_cons_succ, List.getElem?_append_right (by simp)]
  simp
theorem enc_0 (s : ByteArray) (f : Nat → Nat) (pad : Int) : (encCells s f pad)[0]? = some (.string s) := by simp [encCells, encRow_0]
theorem enc_at (s : ByteArray) (f : Nat → Nat) (pad : Int) (i : Nat) (h : i < 256) : (encCells s f pad)[i + 1]? = some (.int .u8 (f i : Nat)) := by simp [encCells, encRow_at s f pad i h]
theorem enc_pad (s : ByteArray) (f : Nat → Nat) (pad : Int) : (encCells s f pad)[257]? = some (.int .i32 pad) := by simp [encCells, encRow_pad]
theorem enc_set (s : ByteArray) (f : Nat → Nat) (pad : Int) (i v : Nat) (h : i < 256) : (encCells s f pad).setIfInBounds (i + 1) (.int .u8 (v : Nat)) = encCells s (upd f i v) pad := by
  unfold encCells
  rw [List.setIfInBounds_toArray]
  congr 1
  refine List.ext_getElem? fun k => ?_
  rw [List.getElem?_set, encRow_length]
  by_cases hk : i + 1 = k
  · subst hk
    rw [if_pos rfl, if_pos (by omega), encRow_at _ _ _ _ h]
    simp [upd]
  · rw [if_neg hk]
    rcases Nat.lt_or_ge k 258 with hk2 | hk2
    · rcases k with _ | k
      · rfl
      · by_cases h3 : k = 256
        · subst h3; rw [encRow_pad, encRow_pad]
        · rw [encRow_at _ _ _ _ (by omega), encRow_at _ _ _ _ (by omega), upd, if_neg (by omega)]
    · rw [List.getElem?_eq_none (by rw [encRow_length]; exact hk2), List.getElem?_eq_none (by rw [encRow_length]; exact hk2)]
theorem enc_congr (s : ByteArray) {f g : Nat → Nat} (pad : Int) (h : ∀ i, i < 256 → f i = g i) : encCells s f pad = encCells s g pad := by
  unfold encCells encRow
  rw [List.map_congr_left (g := fun i => Value.int .u8 (g i : Nat)) fun i hi => by rw [h i (List.mem_range.1 hi)]]
theorem enc_setpad (s : ByteArray) (f : Nat → Nat) (pad p2 : Int) : (encCells s f pad).setIfInBounds 257 (.int .i32 p2) = encCells s f p2 := by
  have e : ∀ p, encRow s f p = (.string s :: (List.range 256).map (fun i => Value.int .u8 (f i : Nat))) ++ [.int .i32 p] := fun p => rfl
  unfold encCells
  rw [List.setIfInBounds_toArray, e, e, List.set_append_right _ _ (by simp)]
  simp
theorem enc_setstr (s s2 : ByteArray) (f : Nat → Nat) (pad : Int) : (encCells s f pad).setIfInBounds 0 (.string s2) = encCells s2 f pad := by
  unfold encCells
  rw [List.setIfInBounds_toArray]
  rfl
theorem zero_enc : (Try.prog.info? 60).map (fun i => (i.zero, i.size)) = some (some (.agg (encCells ByteArray.empty (fun _ => 0) 0)), 258) := by kernel_rfl
def abc : ByteArray := ⟨#[65, 66, 67, 68, 69, 70, 71, 72, 73, 74, 75, 76, 77, 78, 79, 80, 81, 82, 83, 84, 85, 86, 87, 88, 89, 90, 50, 51, 52, 53, 54, 55]⟩
def lowerN (c : Nat) : Nat := if 65 ≤ c ∧ c ≤ 90 then c + 32 else c
def upperN (c : Nat) : Nat := if 97 ≤ c ∧ c ≤ 122 then c - 32 else c
theorem lower_any (c : Nat) (w : World) (h : c < 256) : Calls Try.prog 40 #[.int .u8 (c : Nat)] w fun e w' => e = .returned (.int .u8 ((lowerN c : Nat) : Int)) ∧ w' = w := by
  by_cases h1 : 65 ≤ c
  · have g1 : (65 : Int) ≤ (c : Int) := by omega
    by_cases h2 : c ≤ 90
    · have g2 : (c : Int) ≤ 90 := by omega
      have e : lowerN c = c + 32 := by simp [lowerN, h1, h2]
      rw [e]
      go_enter Try.func40, Try.ntmps40
      go_wp2
      go_ret
      exact ⟨rfl, rfl⟩
    · have g2 : ¬ (c : Int) ≤ 90 := by omega
      have e : lowerN c = c := by simp [lowerN, h2]
      rw [e]
      go_enter Try.func40, Try.ntmps40
      go_wp2
      go_ret
      exact ⟨rfl, rfl⟩
  · have g1 : ¬ (65 : Int) ≤ (c : Int) := by omega
    have e : lowerN c = c := by simp [lowerN, h1]
    rw [e]
    go_enter Try.func40, Try.ntmps40
    go_wp2
    go_ret
    exact ⟨rfl, rfl⟩
theorem upper_any (c : Nat) (w : World) (h : c < 256) : Calls Try.prog 41 #[.int .u8 (c : Nat)] w fun e w' => e = .returned (.int .u8 ((upperN c : Nat) : Int)) ∧ w' = w := by
  by_cases h1 : 97 ≤ c
  · have g1 : (97 : Int) ≤ (c : Int) := by omega
    by_cases h2 : c ≤ 122
    · have g2 : (c : Int) ≤ 122 := by omega
      have e : ((upperN c : Nat) : Int) = (c : Int) - 32 := by simp [upperN, h1, h2]; omega
      rw [e]
      go_enter Try.func41, Try.ntmps41
      go_wp2
      go_ret
      exact ⟨rfl, rfl⟩
    · have g2 : ¬ (c : Int) ≤ 122 := by omega
      have e : upperN c = c := by simp [upperN, h2]
      rw [e]
      go_enter Try.func41, Try.ntmps41
      go_wp2
      go_ret
      exact ⟨rfl, rfl⟩
  · have g1 : ¬ (97 : Int) ≤ (c : Int) := by omega
    have e : upperN c = c := by simp [upperN, h1]
    rw [e]
    go_enter Try.func41, Try.ntmps41
    go_wp2
    go_ret
    exact ⟨rfl, rfl⟩
end Go.Proofs.Ytijbdinemjiepaa
