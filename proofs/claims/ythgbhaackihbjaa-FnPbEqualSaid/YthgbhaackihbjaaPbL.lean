/- The reference's bytes of a link. -/
import Derived.Test.YthgbhaackihbjaaPbH
import Derived.Lib.ConvBytes
namespace Go.Proofs.Ythgbhaackihbjaa
open Go.RowKit

/-- What stands between the fields: a row of the call's own. -/
structure SoFar (w wx : World) (v : Value) (bs : List UInt8) : Prop where
  own : wx.ownsRow w.heap.size 5 1 v bs.length (u8s bs)
  below : Below w.heap.size w wx
/-- Behind a call that makes bytes b, the row that stood is still there; the append's premises. -/
structure Ready (wb wx w2 : World) (v : Value) (bs b : List UInt8) (A2 : Option Addr) (m : Nat) : Prop where
  own : w2.ownsRow wb.heap.size 5 1 v bs.length (u8s bs)
  rd : Reads w2 w2.heap.size 1 A2 m (u8s b)
  base : wb.heap.size ≤ w2.heap.size
  below : Below wb.heap.size wb w2
theorem SoFar.ready {wb wx w2 : World} {v : Value} {bs b : List UInt8} {A2 : Option Addr} {m c2 : Nat} (h : SoFar wb wx v bs) (hb : Below wx.heap.size wx w2) (ho : w2.ownsRow wx.heap.size 5 1 (.slice A2 m c2) m (u8s b)) : Ready wb wx w2 v bs b A2 m :=
  ⟨own_below h.own hb, Reads.of_own ho, Nat.le_trans h.below.size hb.size, below_then h.below h.below.size hb⟩
theorem Ready.next {wb w2 w3 : World} {v v3 : Value} {bs b : List UInt8} {wx : World} {A2 : Option Addr} {m : Nat} (h : Ready wb wx w2 v bs b A2 m) (hm : b.length = m) (ho : w3.ownsRow wb.heap.size 5 1 v3 (bs.length + m) (u8s bs ++ u8s b)) (hg : w2.grownBy w3 v.ownBlock) : SoFar wb w3 v3 (bs ++ b) :=
  ⟨by rw [u8s_append, List.length_append, hm]; exact ho, h.below.grown hg h.base (own_base h.own)⟩
theorem reads_bytes (w : World) (s : ByteArray) : Reads (Lib.bytesWorld w 5 s) (w.heap.size + 1) 1 (some ⟨w.heap.size, 0, none⟩) s.size (u8s s.data.toList) := by
  have hsl : s.data.toList.length = s.size := Array.length_toList
  refine ⟨by rw [u8s_length, hsl]; omega, fun _ => ⟨⟨w.heap.size, 0, none⟩, rfl, Nat.lt_succ_self _, fun j u hu => ?_⟩⟩
  have hj : j < s.data.toList.length := by
    have := (List.getElem?_eq_some_iff.mp hu).1
    rwa [u8s_length] at this
  rw [add_plain, Nat.zero_add, Lib.bytesWorld_cell w _ s j (by omega), ← hu, u8s_at _ _ hj, List.getD_eq_getElem?_getD, List.getElem?_eq_getElem hj]
  rfl
theorem below_bytes (w : World) (s : ByteArray) : Below w.heap.size w (Lib.bytesWorld w 5 s) :=
  ⟨rfl, rfl, rfl, by rw [Lib.bytesWorld_size]; omega, fun k hk => Lib.bytesWorld_at_old w _ s k hk⟩
set_option maxRecDepth 100000 in
theorem specLink_any (l : PLk) (A : Option Addr) (c B : Nat) (w : World) (hr : Reads w B 1 A l.hash.length (u8s l.hash)) (hc : l.hash.length ≤ c) (hB : B ≤ w.heap.size) (hn : l.hash.length ≤ 100) (hm : l.name.size ≤ 100) (hsz : l.size < 18446744073709551616) :
    Calls Try.prog 19 #[.agg #[.bool l.hh, .bool l.hn, .bool l.hs, .slice A l.hash.length c, .string l.name, .int .u64 l.size]] w (Owns w 5 1 (linkBytes (ml l)).length (u8s (linkBytes (ml l)))) := by
  obtain ⟨hh, hnn, hs, hash, name, size⟩ := l
  simp only at hr hc hn hm hsz ⊢
  obtain ⟨i0, hi, hz0, hz1, hz2⟩ := info_parts infoU8
  have hnil : Hid (optF 10 (none : Option (List UInt8)) = []) := rfl
  have hst0 : SoFar (w.alloc (.cells #[.bool hh, .bool hnn, .bool hs, .slice A hash.length c, .string name, .int .u64 size] 34)) ((w.alloc (.cells #[.bool hh, .bool hnn, .bool hs, .slice A hash.length c, .string name, .int .u64 size] 34)).alloc (.cells #[] 5)) (.slice (some ⟨w.heap.size + 1, 0, none⟩) 0 0) [] := by
    have h := own_lit (w.alloc (.cells #[.bool hh, .bool hnn, .bool hs, .slice A hash.length c, .string name, .int .u64 size] 34)) 5 [] (by simp [maxLen])
    refine ⟨?_, below_one _ _⟩
    rw [World.size_alloc] at h ⊢
    exact h
  have HST0 := Lib.hid hst0
  clear hst0
  go_enter Try.func19, Try.ntmps19
  go_upto_if 6 with fail
  go_cut [3] (fun s3 wx => SoFar (w.alloc (.cells #[.bool hh, .bool hnn, .bool hs, .slice A hash.length c, .string name, .int .u64 size] 34)) wx s3 (optF 10 (if hh then some hash else none)))
  case first =>
    cases hh with
    | false =>
      go_wp2
      go_meet
      exact HST0.out
    | true =>
      have hu1 := uv_short (n := hash.length) (by omega)
      have hfl : (fieldB 10 hash).length = 1 + 1 + hash.length := by rw [fieldB_length, hu1]
      have h1 := u8s_one (fieldB 10 hash)
      have HR := Lib.hid ((hr.alloc hB (.cells #[.bool true, .bool hnn, .bool hs, .slice A hash.length c, .string name, .int .u64 size] 34)).alloc (by simp; omega) (.cells #[] 5))
      have HF := Lib.hid hfl
      have b1 : ([] : List UInt8).length + (fieldB 10 hash).length ≤ maxLen := by rw [hfl]; unfold maxLen; simp; omega
      have b2 : (([] : List UInt8).length + (fieldB 10 hash).length) * 1 ≤ 140737488355328 := by rw [hfl]; simp; omega
      clear hr hu1 hfl
      go_wp2_with (first | (go_at_call 18; refine (pbField_any 1 A hash.length c B hash _ (by decide) HR.out (by simp; omega) (by omega)).mono ?_; rintro e w2 ⟨⟨v2, rfl, ho2⟩, hb2⟩; obtain ⟨A2, c2, rfl, _, _⟩ := own_shape ho2; have HRD := Lib.hid (HST0.out.ready hb2 ho2); clear ho2 hb2) | (at_builtin; refine wpList_append_any _ rfl (.tmp 7) (.tmp 10) 22 rfl _ 5 i0 (.int .u8 0) 1 1 Try.underlying22 hi hz0 hz1 hz2 rfl (by decide) _ _ _ rfl HRD.out.own w2.heap.size A2 _ c2 _ rfl HRD.out.rd h1 b1 b2 HRD.out.base ?_; rintro v3 w3 hown3 hg3 _ _; have HN := Lib.hid (HRD.out.next rfl hown3 hg3); clear hown3 hg3) | fail)
      go_meet
      exact HN.out
  case rest =>
    have hcl : ∀ k, wc.cell? ⟨w.heap.size, k, none⟩ = (w.alloc (.cells #[.bool hh, .bool hnn, .bool hs, .slice A hash.length c, .string name, .int .u64 size] 34)).cell? ⟨w.heap.size, k, none⟩ := fun k => hcut.below.cell (p := ⟨w.heap.size, k, none⟩) (by simp)
    have k1 : wc.cell? ⟨w.heap.size, 1, none⟩ = some (.bool hnn) := (hcl 1).trans (by simp [World.cell?_alloc_new])
    have k4 : wc.cell? ⟨w.heap.size, 4, none⟩ = some (.string name) := (hcl 4).trans (by simp [World.cell?_alloc_new])
    have HCUT := Lib.hid hcut
    clear hcut hcl HST0 hr
    go_upto_if 13 with fail
    go_cut [3] (fun s3 wx => SoFar (w.alloc (.cells #[.bool hh, .bool hnn, .bool hs, .slice A hash.length c, .string name, .int .u64 size] 34)) wx s3 (optF 10 (if hh then some hash else none) ++ optF 18 (nameB (if hnn then some name else none))))
    case first =>
      cases hnn with
      | false =>
        go_wp2
        go_meet
        have h := HCUT.out
        rw [show optF 18 (nameB (if false = true then some name else none)) = [] from rfl, List.append_nil]
        exact h
      | true =>
        have hcv := fun W : World => Lib.run_convert_string_bytes (P := Try.prog) W 9 22 5 name Try.underlying9 Try.underlying22 Try.underlying5
        have hsl : name.data.toList.length = name.size := Array.length_toList
        have hfl : (fieldB 18 name.data.toList).length = 1 + 1 + name.size := by rw [fieldB_length, hsl, uv_short (by omega)]
        have hbl : (optF 10 (if hh = true then some hash else none)).length ≤ 102 := optF_le 10 _ (by cases hh <;> simp [optBytes, hn])
        have h1 := u8s_one (fieldB 18 name.data.toList)
        have b1 : (optF 10 (if hh = true then some hash else none)).length + (fieldB 18 name.data.toList).length ≤ maxLen := by rw [hfl]; unfold maxLen; omega
        have b2 : ((optF 10 (if hh = true then some hash else none)).length + (fieldB 18 name.data.toList).length) * 1 ≤ 140737488355328 := by rw [hfl]; omega
        have HBW := Lib.hid (below_bytes wc name)
        have HSF := Lib.hid (SoFar.mk (own_below HCUT.out.own HBW.out) (below_then HCUT.out.below HCUT.out.below.size HBW.out))
        have HRB := Lib.hid (reads_bytes wc name)
        have HSZ : Hid (wc.heap.size + 1 ≤ (Lib.bytesWorld wc 5 name).heap.size) := by show _ ≤ _; rw [Lib.bytesWorld_size]; omega
        clear hfl hbl hsl
        go_wp2_with (first | (go_at_call 18; refine (pbField_any 2 _ _ _ _ name.data.toList _ (by decide) HRB.out HSZ.out (by omega)).mono ?_; rintro e w2 ⟨⟨v2, rfl, ho2⟩, hb2⟩; obtain ⟨A2, c2, rfl, _, _⟩ := own_shape ho2; have HRD := Lib.hid (HSF.out.ready hb2 ho2); clear ho2 hb2) | (at_builtin; refine wpList_append_any _ rfl (.tmp 14) (.tmp 18) 22 rfl _ 5 i0 (.int .u8 0) 1 1 Try.underlying22 hi hz0 hz1 hz2 rfl (by decide) _ _ _ rfl HRD.out.own w2.heap.size A2 _ c2 _ rfl HRD.out.rd h1 b1 b2 HRD.out.base ?_; rintro v3 w3 hown3 hg3 _ _; have HN := Lib.hid (HRD.out.next rfl hown3 hg3); clear hown3 hg3) | fail)
        go_meet
        exact HN.out
    case rest =>
      have hcl : ∀ k, wc.cell? ⟨w.heap.size, k, none⟩ = (w.alloc (.cells #[.bool hh, .bool hnn, .bool hs, .slice A hash.length c, .string name, .int .u64 size] 34)).cell? ⟨w.heap.size, k, none⟩ := fun k => hcut.below.cell (p := ⟨w.heap.size, k, none⟩) (by simp)
      have k2 : wc.cell? ⟨w.heap.size, 2, none⟩ = some (.bool hs) := (hcl 2).trans (by simp [World.cell?_alloc_new])
      have k5 : wc.cell? ⟨w.heap.size, 5, none⟩ = some (.int .u64 size) := (hcl 5).trans (by simp [World.cell?_alloc_new])
      have HCUT2 := Lib.hid hcut
      have HSIZE := Lib.hid hsz
      clear hcut hcl k1 k4 hsz
      have hln : ∀ a b d : List UInt8, (a ++ b) ++ d = a ++ (b ++ d) := fun a b d => List.append_assoc a b d
      cases hs with
      | false =>
        go_wp2
        go_ret
        have h := own_more HCUT2.out.own (base' := w.heap.size) (by simp)
        have e : linkBytes (ml ⟨hh, hnn, false, hash, name, size⟩) = optF 10 (if hh = true then some hash else none) ++ optF 18 (nameB (if hnn = true then some name else none)) := by
          show _ ++ (_ ++ []) = _
          rw [List.append_nil]
          rfl
        rw [e]
        exact ⟨⟨_, rfl, h⟩, below_then (below_one w _) (by simp) HCUT2.out.below⟩
      | true =>
        have h1 := u8s_one (fieldN 24 size)
        have hfl : (fieldN 24 size).length ≤ 11 := by have := uv_le size HSIZE.out; simp [fieldN]; omega
        have hl1 : (optF 10 (if hh = true then some hash else none)).length ≤ 102 := optF_le 10 _ (by cases hh <;> simp [optBytes, hn])
        have hl2 : (optF 18 (nameB (if hnn = true then some name else none))).length ≤ 102 := optF_le 18 _ (by cases hnn <;> simp [optBytes, nameB, show name.data.toList.length = name.size from Array.length_toList, hm])
        have b1 : (optF 10 (if hh = true then some hash else none) ++ optF 18 (nameB (if hnn = true then some name else none))).length + (fieldN 24 size).length ≤ maxLen := by rw [List.length_append]; unfold maxLen; omega
        have b2 : ((optF 10 (if hh = true then some hash else none) ++ optF 18 (nameB (if hnn = true then some name else none))).length + (fieldN 24 size).length) * 1 ≤ 140737488355328 := by rw [List.length_append]; omega
        clear hfl hl1 hl2
        go_wp2_with (first | (go_at_call 28; refine (pbNumber_any 3 size _ (by decide) HSIZE.out).mono ?_; rintro e w2 ⟨⟨v2, rfl, ho2⟩, hb2⟩; obtain ⟨A2, c2, rfl, _, _⟩ := own_shape ho2; have HRD := Lib.hid (HCUT2.out.ready hb2 ho2); clear ho2 hb2) | (at_builtin; refine wpList_append_any _ rfl (.tmp 22) (.tmp 25) 22 rfl _ 5 i0 (.int .u8 0) 1 1 Try.underlying22 hi hz0 hz1 hz2 rfl (by decide) _ _ _ rfl HRD.out.own w2.heap.size A2 _ c2 _ rfl HRD.out.rd h1 b1 b2 HRD.out.base ?_; rintro v3 w3 hown3 hg3 _ _; have HN := Lib.hid (HRD.out.next rfl hown3 hg3); clear hown3 hg3) | fail)
        go_ret
        have h := own_more HN.out.own (base' := w.heap.size) (by simp)
        have e : linkBytes (ml ⟨hh, hnn, true, hash, name, size⟩) = (optF 10 (if hh = true then some hash else none) ++ optF 18 (nameB (if hnn = true then some name else none))) ++ fieldN 24 size := by
          rw [hln]
          rfl
        rw [e]
        exact ⟨⟨_, rfl, h⟩, below_then (below_one w _) (by simp) HN.out.below⟩
end Go.Proofs.Ythgbhaackihbjaa
