/- The thin package's PathSegments and PathJoined; the law's live call. -/
import Derived.Test.YtijbdinemjiepaaSegG
namespace Go.Proofs.Ytijbdinemjiepaa
open Go.RowKit Go.Lib

structure Ans (w : World) (b : Bool) (r : Ending) (w' : World) : Prop where
  ret : r = .returned (.bool b)
  below : Below w.heap.size w w'
/-- A text comes back. -/
structure Txt (w : World) (l : List UInt8) (r : Ending) (w' : World) : Prop where
  ret : r = .returned (.string ⟨l.toArray⟩)
  below : Below w.heap.size w w'
theorem joined_els : ∀ c : List UInt8, joined (Pa.els c) = c
  | [] => rfl
  | a :: t => by
    have ih := joined_els t
    unfold Pa.els
    by_cases ha : a = 47
    · rw [if_pos ha]
      obtain ⟨x, r, hx⟩ := List.exists_cons_of_ne_nil (els_ne t)
      rw [hx] at ih ⊢
      rw [joined_cons, ih, ha]
      rfl
    · rw [if_neg ha]
      obtain ⟨x, r, hx⟩ := List.exists_cons_of_ne_nil (els_ne t)
      rw [hx] at ih ⊢
      cases r with
      | nil => rw [joined_one] at ih ⊢; rw [ih]
      | cons y r => rw [joined_cons] at ih ⊢; rw [← ih]; rfl
theorem joined_segs (c : List UInt8) : (joined (segs c)).length ≤ c.length := by
  have h := joined_els c
  unfold segs
  split
  · rename_i r e
    rw [e] at h
    cases r with
    | nil => simp [joined, List.intercalate, List.intersperse]
    | cons y r =>
      rw [joined_cons] at h
      rw [← h]
      simp
  · rw [h]
    exact Nat.le_refl _
set_option maxRecDepth 100000 in
theorem pathSegments_any (s : ByteArray) (w : World) (hs : s.size ≤ 100000) :
    Calls Try.prog 12 #[.string s] w (Owns w 9 1 (segs (Pa.cleanEls s.data.toList)).length (strs (segs (Pa.cleanEls s.data.toList)))) := by
  have hcl := cleanEls_len s.data.toList
  rw [← size_eq] at hcl
  have hcnt := segs_count (Pa.cleanEls s.data.toList)
  have HC := Lib.hid (segments_any s w hs)
  generalize segs (Pa.cleanEls s.data.toList) = ls at hcnt HC ⊢
  have hn : ls.length ≤ 1000000 := by omega
  clear hcnt hcl
  go_enter Try.func12, Try.ntmps12
  go_wp2_with (first | (go_at_call 21; refine HC.out.mono ?_; rintro e w1 ⟨⟨A, c, rfl, hA, hc, hr⟩, hb1⟩; have HR := Lib.hid hr; have HB1 := Lib.hid hb1; clear hr hb1) | (go_at_call 20; refine (clone_any A _ c _ ls _ hA HR.out (Nat.le_refl _) hn).mono ?_; rintro e w2 ⟨⟨v2, rfl, ho2⟩, hb2⟩; obtain ⟨A2, c2, rfl, hle2, hr2⟩ := own_shape ho2; have HO2 := Lib.hid ho2; have HB2 := Lib.hid hb2; clear ho2 hr2 hb2) | fail)
  go_ret
  exact ⟨⟨_, rfl, own_more HO2.out HB1.out.size⟩, below_then HB1.out HB1.out.size HB2.out⟩
def texts (ls : List (List UInt8)) : List ByteArray := ls.map fun l => ⟨l.toArray⟩
theorem texts_data (ls : List (List UInt8)) : (texts ls).map (fun s => s.data.toList) = ls := by
  simp [texts, List.map_map, Function.comp_def]
theorem join_eq (ls : List (List UInt8)) : Lib.join ((texts ls).map (fun s => s.data.toList)) (⟨#[47]⟩ : ByteArray).data.toList = joined ls := by rw [texts_data]; rfl
set_option maxRecDepth 100000 in
theorem join_any (b o c : Nat) (ls : List (List UInt8)) (w : World) (hc : ∀ (j : Nat) (u : Value), (strs ls)[j]? = some u → w.cell? ⟨b, o + j, none⟩ = some u) (hb : b < w.heap.size) (hle : ls.length ≤ c) (hn : ls.length ≤ 1000000) (hj : (joined ls).length ≤ 1000000) :
    Calls Try.prog 22 #[.slice (some ⟨b, o, none⟩) ls.length c] w (Txt w (joined ls)) := by
  have hl : (texts ls).length = ls.length := by simp [texts]
  have H := Try.strings_Join b o c (texts ls) ⟨#[47]⟩ w (fun j x hx => hc j _ (by
    simp only [texts, List.getElem?_map] at hx
    obtain ⟨y, hy, rfl⟩ := Option.map_eq_some_iff.1 hx
    simp [strs, hy])) hb (by omega) (by omega) (by rw [join_eq]; omega)
  rw [join_eq, hl] at H
  have HJ := Lib.hid H
  clear H hc hl
  go_enter Try.func22, Try.ntmps22
  go_wp2_with (first | (go_at_call 29; refine HJ.out.mono ?_; rintro e w2 ⟨rfl, hb2⟩; have HB2 := Lib.hid hb2; clear hb2) | fail)
  go_ret
  exact ⟨rfl, HB2.out⟩
set_option maxRecDepth 100000 in
theorem pathJoined_any (A : Option Addr) (c B : Nat) (ls : List (List UInt8)) (w : World) (hne : ls ≠ []) (hr : Reads w B 1 A ls.length (strs ls)) (hB : B ≤ w.heap.size) (hn : ls.length ≤ 1000000) (hj : (joined ls).length ≤ 1000000) :
    Calls Try.prog 14 #[.slice A ls.length c] w (Txt w (joined ls)) := by
  have hpos : 0 < ls.length := by cases ls; exact absurd rfl hne; simp
  have hA : A.isNone = false := by obtain ⟨b, o, rfl, _⟩ := hr.lit hpos; rfl
  have HR := Lib.hid hr
  clear hr
  go_enter Try.func14, Try.ntmps14
  go_wp2_with (first | (go_at_call 20; refine (clone_any A _ c _ ls _ hA HR.out hB hn).mono ?_; rintro e w2 ⟨⟨v2, rfl, ho2⟩, hb2⟩; obtain ⟨A2, c2, rfl, hle2, hr2⟩ := own_shape ho2; obtain ⟨b, o, rfl, hb, hc⟩ := hr2.lit hpos; have HCC := Lib.hid hc; have HB2 := Lib.hid hb2; clear ho2 hr2 hb2 hc) | (go_at_call 22; refine (join_any b o c2 ls _ HCC.out hb hle2 hn hj).mono ?_; rintro e w3 ⟨rfl, hb3⟩; have HB3 := Lib.hid hb3; clear hb3) | fail)
  go_ret
  exact ⟨rfl, below_then HB2.out HB2.out.size HB3.out⟩
theorem live_segs : segs (Pa.cleanEls [47, 97, 47, 47, 98, 47]) = [[97], [98]] := by decide
set_option maxRecDepth 100000 in
theorem live_any (w : World) : Calls Try.prog 11 #[] w (Ans w true) := by
  have HC := Lib.hid (pathSegments_any ⟨#[47, 97, 47, 47, 98, 47]⟩ w (by decide))
  rw [show segs (Pa.cleanEls (⟨#[47, 97, 47, 47, 98, 47]⟩ : ByteArray).data.toList) = [[97], [98]] from live_segs] at HC
  go_enter Try.func11, Try.ntmps11
  go_wp2_with (first | (go_at_call 12; refine HC.out.mono ?_; rintro e w2 ⟨⟨v2, rfl, ho2⟩, hb2⟩; obtain ⟨A2, c2, rfl, hle2, hr2⟩ := own_shape ho2; have HR2 := Lib.hid hr2; have HB2 := Lib.hid hb2; clear ho2 hr2 hb2) | (go_at_call 13; refine (equal_any _ _ _ _ _ _ _ _ [[97], [98]] [[97], [98]] _ (HR2.out.alloc (Nat.le_refl _) _) (reads_lit w2 9 (strs [[97], [98]])) (by decide) (by decide)).mono ?_; rintro e w3 ⟨rfl, k, rfl⟩) | fail)
  go_ret
  exact ⟨by simp, below_drewN (below_alloc HB2.out _) k⟩
end Go.Proofs.Ytijbdinemjiepaa
