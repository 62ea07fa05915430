/- The law FnPathSegmentsAgain: whatever the text, the call returns true. -/
import Derived.Test.YtijbdinemjiepaaSegH
namespace Go.Proofs.Ytijbdinemjiepaa
open Go.RowKit Go.Lib

def okSeg (x : List UInt8) : Bool := !(x == [46]) && !(x == [46, 46]) && !(x == [])
theorem concat_eq (l : List UInt8) : (⟨#[47]⟩ : ByteArray) ++ (⟨l.toArray⟩ : ByteArray) = ⟨(47 :: l).toArray⟩ := by
  refine ByteArray.ext ?_
  simp
theorem equalB_any (A A' : Option Addr) (n c c' : Nat) {B B' : Nat} (ls : List (List UInt8)) (w : World) (hr : Reads w B 1 A n (strs ls)) (hr' : Reads w B' 1 A' n (strs ls)) (hn : n ≤ 1000000) :
    Calls Try.prog 13 #[.slice A n c, .slice A' n c'] w (Ans w true) :=
  (equal_any A A' n n c c' B B' ls ls w hr hr' hn hn).mono fun e w' ⟨h1, k, h2⟩ => ⟨by rw [h1]; simp, by rw [h2]; exact below_drewN (Below.refl _ _) k⟩
set_option maxRecDepth 100000 in
set_option maxHeartbeats 1000000 in
theorem again_any (s : ByteArray) (w : World) : Calls Try.prog 4 #[.string s] w (Ans w true) := by
  rcases Nat.lt_or_ge 2147483647 s.size with h1 | h1
  · go_enter Try.func4, Try.ntmps4
    go_wp2
    go_ret
    exact ⟨rfl, Below.refl _ _⟩
  rcases Nat.lt_or_ge 2000 s.size with h2 | h2
  · go_enter Try.func4, Try.ntmps4
    go_wp2_with (first | (go_at_call 11; refine (live_any _).mono ?_; rintro e w2 ⟨rfl, hb2⟩; have HB2 := Lib.hid hb2; clear hb2) | fail)
    go_ret
    exact ⟨rfl, HB2.out⟩
  have hcl := cleanEls_len s.data.toList
  rw [← size_eq] at hcl
  have hcnt := segs_count (Pa.cleanEls s.data.toList)
  have hjn := joined_segs (Pa.cleanEls s.data.toList)
  have hne := segs_ne (clean_ne s.data.toList)
  have hsl := segs_slash (Pa.cleanEls s.data.toList)
  have HC := Lib.hid (pathSegments_any s w (by omega))
  generalize segs (Pa.cleanEls s.data.toList) = ls at hcnt hjn hne hsl HC
  have hn : ls.length ≤ 2002 := by omega
  have hj : (joined ls).length ≤ 2001 := by omega
  have hpos : 0 < ls.length := by cases ls; exact absurd rfl hne; simp
  have hn0 : ((ls.length : Int) == 0) = false := by simp; exact hne
  have HNE := Lib.hid hne
  have HSL := Lib.hid hsl
  clear hcnt hcl hjn hne hsl
  go_enter Try.func4, Try.ntmps4
  go_wp2_with (first | (go_at_call 12; refine HC.out.mono ?_; rintro e w1 ⟨⟨v1, rfl, ho1⟩, hb1⟩; obtain ⟨A, c, rfl, hle, hr⟩ := own_shape ho1; obtain ⟨b, o, rfl, hb, hc⟩ := hr.lit hpos; have HR := Lib.hid hr; have HCC := Lib.hid hc; have HB1 := Lib.hid hb1; clear ho1 hr hb1 hc) | fail)
  go_loopw [5, 20] (fun _ i wr => wr = w1 ∧ ∃ j : Nat, j ≤ ls.length ∧ i = .int .i64 j ∧ Hid ((ls.take j).all okSeg = true)) (fun _ i _ => ls.length - (RowKit.intOf i).toNat)
  case atStart => exact ⟨rfl, 0, Nat.zero_le _, rfl, rfl⟩
  case round =>
    obtain ⟨rfl, j, hjl, rfl, HALL⟩ := hrel
    by_cases hlt : j < ls.length
    · have hcj := HCC.out j _ (strs_at ls j hlt)
      have htk : (ls.take (j + 1)).all okSeg = ((ls.take j).all okSeg && okSeg ls[j]) := by rw [List.take_succ_eq_append_getElem hlt, List.all_append, List.all_cons, List.all_nil, Bool.and_true]
      generalize ls[j] = x at hcj htk
      have HTK := Lib.hid htk
      clear htk
      cases q1 : x == [46]
      cases q2 : x == [46, 46]
      cases q3 : x == []
      · have hx : okSeg x = true := by simp [okSeg, q1, q2, q3]
        have HX := Lib.hid hx
        clear hx
        go_wp2_with fail
        go_roundw
        case rel => exact ⟨trivial, j + 1, by omega, by go_num, by show _ = true; rw [HTK.out, HALL.out, HX.out]; rfl⟩
        case measure => simp [RowKit.intOf]; omega
      all_goals
        clear HTK
        go_wp2_with (first | (go_at_call 11; refine (live_any _).mono ?_; rintro e w2 ⟨rfl, hb2⟩; have HB2 := Lib.hid hb2; clear hb2) | fail)
        go_ret
        exact ⟨rfl, below_then HB1.out HB1.out.size HB2.out⟩
    · have hall := HALL.out
      rw [List.take_of_length_le (by omega)] at hall
      have hpl : ∀ x ∈ ls, Plain x := fun x hx => by
        have h := List.all_eq_true.mp hall x hx
        simp [okSeg] at h
        exact ⟨HSL.out x hx, h.2, h.1.1, h.1.2⟩
      have hs1 : ∀ W, Calls Try.prog 12 #[.string ⟨(47 :: joined ls).toArray⟩] W (Owns W 9 1 ls.length (strs ls)) := fun W => by
        have h := pathSegments_any ⟨(47 :: joined ls).toArray⟩ W (by rw [size_eq]; simp; omega)
        rw [show segs (Pa.cleanEls (⟨(47 :: joined ls).toArray⟩ : ByteArray).data.toList) = ls from by
          show segs (Pa.cleanEls (47 :: joined ls)) = ls
          rw [clean_rooted HNE.out hpl, segs_rooted HNE.out hpl]] at h
        exact h
      have hs2 : ∀ W, Calls Try.prog 12 #[.string ⟨(joined ls).toArray⟩] W (Owns W 9 1 ls.length (strs ls)) := fun W => by
        have h := pathSegments_any ⟨(joined ls).toArray⟩ W (by rw [size_eq]; simp; omega)
        rw [show segs (Pa.cleanEls (⟨(joined ls).toArray⟩ : ByteArray).data.toList) = ls from by
          show segs (Pa.cleanEls (joined ls)) = ls
          rw [clean_joined HNE.out hpl, segs_joined HNE.out hpl]] at h
        exact h
      have hcat := concat_eq (joined ls)
      have HS1 := Lib.hid hs1
      have HS2 := Lib.hid hs2
      have HRX := Lib.hid HR.out
      have HZX := Lib.hid (Nat.le_refl wr.heap.size)
      have HBX := Lib.hid HB1.out
      clear hs1 hs2 hall hpl HALL
      go_wp2_with (first | (go_at_call 14; refine (pathJoined_any _ c wr.heap.size ls _ HNE.out HRX.out HZX.out (by omega) (by omega)).mono ?_; rintro e w2 ⟨rfl, hb⟩; have hrx := HRX.out.below (hb.mono HZX.out); have hzx := Nat.le_trans HZX.out hb.size; have hbx := below_then HBX.out HBX.out.size hb; clear HRX HZX HBX hb; have HRX := Lib.hid hrx; have HZX := Lib.hid hzx; have HBX := Lib.hid hbx; clear hrx hzx hbx) | (go_at_call 12; refine (HS1.out _).mono ?_; clear HS1; rintro e w2 ⟨⟨v2, rfl, ho2⟩, hb⟩; obtain ⟨A2, c2, rfl, _, hr2⟩ := own_shape ho2; have HR2 := Lib.hid hr2; clear ho2 hr2; have hrx := HRX.out.below (hb.mono HZX.out); have hzx := Nat.le_trans HZX.out hb.size; have hbx := below_then HBX.out HBX.out.size hb; clear HRX HZX HBX hb; have HRX := Lib.hid hrx; have HZX := Lib.hid hzx; have HBX := Lib.hid hbx; clear hrx hzx hbx) | (go_at_call 12; refine (HS2.out _).mono ?_; rintro e w2 ⟨⟨v2, rfl, ho2⟩, hb⟩; obtain ⟨A2, c2, rfl, _, hr2⟩ := own_shape ho2; have HR2 := Lib.hid hr2; clear ho2 hr2; have hrx := HRX.out.below (hb.mono HZX.out); have hzx := Nat.le_trans HZX.out hb.size; have hbx := below_then HBX.out HBX.out.size hb; clear HRX HZX HBX hb; have HRX := Lib.hid hrx; have HZX := Lib.hid hzx; have HBX := Lib.hid hbx; clear hrx hzx hbx) | (go_at_call 13; refine (equalB_any _ _ _ _ _ ls _ HR2.out HRX.out (by omega)).mono ?_; rintro e w2 ⟨rfl, hb⟩; have hrx := HRX.out.below (hb.mono HZX.out); have hzx := Nat.le_trans HZX.out hb.size; have hbx := below_then HBX.out HBX.out.size hb; clear HRX HZX HBX hb; have HRX := Lib.hid hrx; have HZX := Lib.hid hzx; have HBX := Lib.hid hbx; clear hrx hzx hbx) | (go_at_call 11; refine (live_any _).mono ?_; rintro e w2 ⟨rfl, hb⟩; have hrx := HRX.out.below (hb.mono HZX.out); have hzx := Nat.le_trans HZX.out hb.size; have hbx := below_then HBX.out HBX.out.size hb; clear HRX HZX HBX hb; have HRX := Lib.hid hrx; have HZX := Lib.hid hzx; have HBX := Lib.hid hbx; clear hrx hzx hbx) | fail)
      go_ret
      exact ⟨rfl, HBX.out⟩
theorem again_row (s : ByteArray) (w : World) (_ : s.size ≤ 140737488351232) : Calls Try.prog 4 #[.string s] w (Ans w true) := again_any s w
end Go.Proofs.Ytijbdinemjiepaa
