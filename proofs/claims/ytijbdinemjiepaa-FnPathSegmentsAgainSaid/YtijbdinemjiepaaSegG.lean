/- The segments of a path, walked: path.Clean, the parts between slashes, their copy. -/
import Derived.Lib.CleanLen
import Derived.Test.YtijbdinemjiepaaSegC
import Derived.Test.YtijbdinemjiepaaShelf
namespace Go.Proofs.Ytijbdinemjiepaa
open Go.RowKit Go.Lib

theorem cleanEls_len (l : List UInt8) : (Pa.cleanEls l).length ≤ l.length + 1 := by rw [← Pa.clean_eq_cleanEls]; exact Pa.clean_length_le_succ l
/-- What Segments hands back: a slice that reads as the segments. -/
structure Seg (w : World) (ls : List (List UInt8)) (r : Ending) (w' : World) : Prop where
  ex : ∃ A c, r = .returned (.slice A ls.length c) ∧ A.isNone = false ∧ ls.length ≤ c ∧ Reads w' w'.heap.size 1 A ls.length (strs ls)
  below : Below w.heap.size w w'
theorem segs_count (c : List UInt8) : (segs c).length ≤ c.length + 1 := by
  have h := els_count c
  unfold segs
  split
  · rename_i r e
    rw [e] at h
    simp at h
    omega
  · exact h
set_option maxRecDepth 100000 in
set_option maxHeartbeats 1000000 in
theorem segments_any (s : ByteArray) (w : World) (hs : s.size ≤ 100000) :
    Calls Try.prog 21 #[.string s] w (Seg w (segs (Pa.cleanEls s.data.toList))) := by
  have hcl := cleanEls_len s.data.toList
  have hne := clean_ne s.data.toList
  rw [← size_eq] at hcl
  have HC := Lib.hid (Try.path_Clean s w (by omega))
  rw [Pa.clean_eq_cleanEls] at HC
  generalize Pa.cleanEls s.data.toList = l at hcl hne HC ⊢
  have hec := els_count l
  obtain ⟨x, r, hx⟩ : ∃ x r, Pa.els l = x :: r := List.exists_cons_of_ne_nil (els_ne l)
  have hsg : segs l = if x = [] then r else x :: r := by
    unfold segs
    rw [hx]
    cases x <;> simp
  have hrne : x = [] → r ≠ [] := fun h => by
    have := segs_ne hne
    rw [hsg, if_pos h] at this
    exact this
  have HX := Lib.hid hx
  have HSG := Lib.hid hsg
  have HNE := Lib.hid hrne
  rw [hx] at hec
  have hrl : r.length ≤ 100001 := by simp at hec; omega
  have hrp : x = [] → 1 ≤ r.length := fun h => by
    have := hrne h
    cases r
    · exact absurd rfl this
    · simp
  have hll : l.length ≤ 1000000 := by omega
  clear hne hx hsg hrne hec hcl
  cases x with
  | nil =>
    have hr1 := hrp rfl
    have HSG2 : Hid (segs l = r) := by show _ = _; rw [HSG.out]; simp
    clear hrp HSG
    go_enter Try.func21, Try.ntmps21
    go_wp2_with (first | (go_at_call 27; refine HC.out.mono ?_; rintro e w1 ⟨rfl, hb1⟩; have HB1 := Lib.hid hb1; clear hb1) | (go_at_call 28; refine (split_any l _ hll).mono ?_; rw [HX.out]; rintro e w2 ⟨⟨v2, rfl, ho2⟩, hb2⟩; obtain ⟨A2, c2, rfl, hle2, hr2⟩ := own_shape ho2; obtain ⟨b, o, rfl, hb, hc⟩ := hr2.lit (k := 0) (by simp); have k0 := hc 0 _ rfl; rw [Nat.add_zero] at k0; have HR2 := Lib.hid hr2; have HCC := Lib.hid hc; have HB2 := Lib.hid hb2; clear ho2 hr2 hb2 hc) | fail)
    · exfalso
      rw [List.length_cons] at hle2
      omega
    · go_ret
      rw [HSG2.out]
      exact ⟨⟨_, _, rfl, rfl, by rw [List.length_cons] at hle2; omega, by simp [strs], fun _ => ⟨⟨b, o + 1, none⟩, rfl, hb, fun j u hu => by rw [add_plain, Nat.add_assoc, Nat.add_comm 1 j]; exact HCC.out (j + 1) u hu⟩⟩, below_then HB1.out HB1.out.size HB2.out⟩
  | cons a x =>
    have HSG2 : Hid (segs l = (a :: x) :: r) := by show _ = _; rw [HSG.out]; simp
    clear hrp HSG
    go_enter Try.func21, Try.ntmps21
    go_wp2_with (first | (go_at_call 27; refine HC.out.mono ?_; rintro e w1 ⟨rfl, hb1⟩; have HB1 := Lib.hid hb1; clear hb1) | (go_at_call 28; refine (split_any l _ hll).mono ?_; rw [HX.out]; rintro e w2 ⟨⟨v2, rfl, ho2⟩, hb2⟩; obtain ⟨A2, c2, rfl, hle2, hr2⟩ := own_shape ho2; obtain ⟨b, o, rfl, hb, hc⟩ := hr2.lit (k := 0) (by simp); have k0 := hc 0 _ rfl; rw [Nat.add_zero] at k0; have HR2 := Lib.hid hr2; have HCC := Lib.hid hc; have HB2 := Lib.hid hb2; clear ho2 hr2 hb2 hc) | fail)
    go_ret
    rw [HSG2.out]
    exact ⟨⟨_, _, rfl, rfl, hle2, HR2.out⟩, below_then HB1.out HB1.out.size HB2.out⟩
end Go.Proofs.Ytijbdinemjiepaa
