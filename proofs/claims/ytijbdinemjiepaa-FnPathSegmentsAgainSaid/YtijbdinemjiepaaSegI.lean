/- The program's zzIndex at a slash: where the first slash of a text stands. -/
import Derived.Lib.Strings
import Derived.Test.YtijbdinemjiepaaProg
import Derived.Test.YtijbdinemjiepaaMem
import Derived.Test.YtijbdinemjiepaaSegP
namespace Go.Proofs.Ytijbdinemjiepaa
open Go.RowKit Go.Lib

/-- Where the first slash stands. -/
structure FirstAt (l : List UInt8) (j : Nat) : Prop where
  lt : j < l.length
  no : 47 ∉ l.take j
  at_ : l[j]? = some 47
/-- What zzIndex hands back. -/
def Slash (l : List UInt8) (r : Int) : Prop := (r = -1 ∧ 47 ∉ l) ∨ ∃ j : Nat, r = j ∧ FirstAt l j
theorem piece_one (s : ByteArray) (j : Nat) (h : j < s.size) : (s.extract j (j + 1)).toList = [(s.data.toList[j]?).getD 0] := by
  rw [extract_toList]
  have hl : j < s.data.toList.length := by rw [← size_eq]; exact h
  rw [show j + 1 - j = 1 from by omega, List.getElem?_eq_getElem hl, List.drop_eq_getElem_cons hl]
  rfl
theorem take_no {l : List UInt8} {j : Nat} (h : 47 ∉ l.take j) (hj : j < l.length) (h2 : (l[j]?).getD 0 ≠ 47) : 47 ∉ l.take (j + 1) := by
  rw [List.take_succ_eq_append_getElem hj, List.mem_append]
  rw [List.getElem?_eq_getElem hj] at h2
  rintro (h' | h')
  · exact h h'
  · simp at h'
    exact h2 (by simp [h'])
set_option maxRecDepth 100000 in
theorem index_any (s : ByteArray) (w : World) (hs : s.size ≤ 1099511627776) :
    Calls Try.prog 36 #[.string s, .string ⟨#[47]⟩] w fun e w' => (∃ r, e = .returned (.int .i64 r) ∧ Slash s.data.toList r) ∧ w' = w := by
  go_enter Try.func36, Try.ntmps36
  go_wp2
  go_loopw [5] (fun i wr => wr = w ∧ ∃ j : Nat, j ≤ s.size ∧ i = .int .i64 j ∧ Hid (47 ∉ s.data.toList.take j)) (fun i _ => s.size - (intOf i).toNat)
  case atStart => exact ⟨rfl, 0, Nat.zero_le _, rfl, by show _ ∉ _; simp⟩
  case round =>
    obtain ⟨rfl, j, hj, rfl, HN⟩ := hrel
    by_cases hlt : j < s.size
    · have hp := piece_one s j hlt
      have hl : j < s.data.toList.length := by rw [← size_eq]; exact hlt
      cases hq : (s.extract j (j + 1)).toList == [47]
      · have hne : (s.data.toList[j]?).getD 0 ≠ 47 := by rw [hp] at hq; simpa using hq
        have HT := Lib.hid (take_no HN.out hl hne)
        clear hp hne hl
        go_wp2
        go_roundw
        case rel => exact ⟨trivial, j + 1, by omega, by go_num, HT.out⟩
        case measure => simp [intOf]; omega
      · have hat : s.data.toList[j]? = some 47 := by
          rw [hp, List.getElem?_eq_getElem hl] at hq
          rw [List.getElem?_eq_getElem hl]
          simpa using hq
        have HF := Lib.hid (FirstAt.mk hl HN.out hat)
        clear hp hl hat
        go_wp2
        go_ret
        exact ⟨⟨j, rfl, .inr ⟨j, rfl, HF.out⟩⟩, rfl⟩
    · obtain rfl : j = s.size := by omega
      have hn := HN.out
      rw [List.take_of_length_le (by rw [← size_eq]; omega)] at hn
      have HN2 := Lib.hid hn
      clear hn
      go_wp2
      go_ret
      exact ⟨⟨-1, rfl, .inl ⟨rfl, HN2.out⟩⟩, rfl⟩
end Go.Proofs.Ytijbdinemjiepaa
