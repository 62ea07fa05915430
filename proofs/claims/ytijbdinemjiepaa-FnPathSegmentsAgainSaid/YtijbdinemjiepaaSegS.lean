/- The program's zzSplit at a slash: what stands between the slashes. -/
import Derived.Test.YtijbdinemjiepaaSegI
namespace Go.Proofs.Ytijbdinemjiepaa
open Go.RowKit Go.Lib

def strs (ls : List (List UInt8)) : List Value := ls.map fun l => .string ⟨l.toArray⟩
theorem strs_length (ls : List (List UInt8)) : (strs ls).length = ls.length := by simp [strs]
theorem strs_one (ls : List (List UInt8)) : ∀ u ∈ strs ls, u.oneCell' = true := by
  intro u hu
  simp only [strs, List.mem_map] at hu
  obtain ⟨l, _, rfl⟩ := hu
  rfl
theorem infoStr : (Try.prog.info? 9).map (fun i => (i.zero, i.size, i.bytes)) = some (some (.string ByteArray.empty), 1, 16) := by kernel_rfl
theorem first_cut {l : List UInt8} {j : Nat} (h : FirstAt l j) : l = l.take j ++ 47 :: l.drop (j + 1) := by
  have := List.take_append_drop j l
  have hlt := h.lt
  rw [List.drop_eq_getElem_cons hlt] at this
  have e : l[j] = 47 := by have := h.at_; rw [List.getElem?_eq_getElem hlt] at this; simpa using this
  rw [e] at this
  exact this.symm
theorem els_first {l : List UInt8} {j : Nat} (h : FirstAt l j) : Pa.els l = l.take j :: Pa.els (l.drop (j + 1)) := by
  conv => lhs; rw [first_cut h]
  exact els_cut _ _ h.no
theorem els_count : ∀ l : List UInt8, (Pa.els l).length ≤ l.length + 1
  | [] => by simp [Pa.els]
  | a :: t => by
    have ih := els_count t
    unfold Pa.els
    split
    · simp; omega
    · generalize Pa.els t = E at ih
      cases E
      · simp
      · simp at ih ⊢; omega
/-- Split, on its way: the parts so far, and the rest. -/
structure Parts (w wr : World) (l : List UInt8) (done : List (List UInt8)) (r : List UInt8) (v : Value) : Prop where
  own : wr.ownsRow w.heap.size 9 1 v done.length (strs done)
  cut : Pa.els l = done ++ Pa.els r
  below : Below w.heap.size w wr
  len : r.length + done.length ≤ l.length
theorem Parts.next {w wr w2 : World} {l r : List UInt8} {done : List (List UInt8)} {v v2 : Value} {j : Nat} {o : Obj} (h : Parts w wr l done r v) (hf : FirstAt r j) (hg : (wr.alloc o).grownBy w2 v.ownBlock) (ho : w2.ownsRow w.heap.size 9 1 v2 (done.length + 1) (strs done ++ strs [r.take j])) : Parts w w2 l (done ++ [r.take j]) (r.drop (j + 1)) v2 := by
  have h1 := h.len
  have h2 := hf.lt
  have h3 := h.below.size
  refine ⟨by rw [List.length_append, strs, List.map_append]; exact ho, ?_, (below_alloc h.below o).grown hg (by simp; omega) (own_base h.own), by simp; omega⟩
  rw [h.cut, els_first hf]
  simp
theorem Parts.done_ {w wr w2 : World} {l r : List UInt8} {done : List (List UInt8)} {v v2 : Value} {o : Obj} (h : Parts w wr l done r v) (hn : 47 ∉ r) (hg : (wr.alloc o).grownBy w2 v.ownBlock) (ho : w2.ownsRow w.heap.size 9 1 v2 (done.length + 1) (strs done ++ strs [r])) : w2.ownsRow w.heap.size 9 1 v2 (Pa.els l).length (strs (Pa.els l)) ∧ Below w.heap.size w w2 := by
  have h3 := h.below.size
  refine ⟨?_, (below_alloc h.below o).grown hg (by simp; omega) (own_base h.own)⟩
  rw [h.cut, els_plain r hn, List.length_append, strs, List.map_append]
  exact ho
set_option maxRecDepth 100000 in
set_option maxHeartbeats 1000000 in
theorem split_any (l : List UInt8) (w : World) (hs : l.length ≤ 1000000) :
    Calls Try.prog 28 #[.string ⟨l.toArray⟩, .string ⟨#[47]⟩] w (Owns w 9 1 (Pa.els l).length (strs (Pa.els l))) := by
  obtain ⟨i0, hi, hz0, hz1, hz2⟩ := info_parts infoStr
  go_enter Try.func28, Try.ntmps28
  go_wp2
  go_loopw [0, 5, 8] (fun s v _ wr => ∃ r done, s = .string ⟨r.toArray⟩ ∧ Parts w wr l done r v) (fun s _ _ _ => match s with | .string b => b.size + 1 | _ => 0)
  case atStart => exact ⟨l, [], rfl, World.ownsRow_nil _ _ _ _, rfl, Below.refl _ _, by simp⟩
  case round =>
    obtain ⟨r, done, rfl, hp⟩ := hrel
    have hlen := hp.len
    have hrs : (⟨r.toArray⟩ : ByteArray).size ≤ 1099511627776 := by rw [size_eq]; simp; omega
    have HP := Lib.hid hp
    have b1 : done.length + 1 ≤ maxLen := by unfold maxLen; omega
    have b2 : (done.length + 1) * 16 ≤ 140737488355328 := by omega
    have hb0 := HP.out.below.size
    clear hp
    go_wp2_with fail
    refine (index_any _ _ hrs).mono ?_
    rintro e w2 ⟨⟨k, rfl, hk⟩, rfl⟩
    rcases hk with ⟨rfl, hno⟩ | ⟨j, rfl, hf⟩
    · have HNO := Lib.hid hno
      clear hno
      go_wp2_with (first | (at_builtin; refine wpList_append_any _ rfl (.tmp 42) (.tmp 44) 30 rfl w.heap.size 9 i0 _ 1 16 Try.underlying30 hi hz0 hz1 hz2 rfl (by decide) _ done.length (strs done) rfl (own_below HP.out.own (below_one w2 _)) (w2.heap.size + 1) (some ⟨w2.heap.size, 0, none⟩) 1 1 (strs [r]) rfl (reads_lit w2 9 (strs [r])) (strs_one _) b1 b2 (by simp; omega) ?_; rintro v3 w3 hown3 hg3 _ _; have HD := Lib.hid (HP.out.done_ HNO.out hg3 hown3); clear hown3 hg3) | fail)
      go_ret
      exact ⟨⟨_, rfl, HD.out.1⟩, HD.out.2⟩
    · have hjl : j < r.length := hf.lt
      have he : (⟨r.toArray⟩ : ByteArray).extract 0 j = ⟨(r.take j).toArray⟩ := by rw [extract_eq]; simp
      have he2 : (⟨r.toArray⟩ : ByteArray).extract (j + 1) r.length = ⟨(r.drop (j + 1)).toArray⟩ := by rw [extract_eq, List.take_of_length_le (by simp)]
      have HF := Lib.hid hf
      clear hf
      go_wp2_with (first | (at_builtin; refine wpList_append_any _ rfl (.tmp 46) (.tmp 50) 30 rfl w.heap.size 9 i0 _ 1 16 Try.underlying30 hi hz0 hz1 hz2 rfl (by decide) _ done.length (strs done) rfl (own_below HP.out.own (below_one w2 _)) (w2.heap.size + 1) (some ⟨w2.heap.size, 0, none⟩) 1 1 (strs [r.take j]) rfl (reads_lit w2 9 (strs [r.take j])) (strs_one _) b1 b2 (by simp; omega) ?_; rintro v3 w3 hown3 hg3 _ _; have HD := Lib.hid (HP.out.next HF.out hg3 hown3); clear hown3 hg3) | fail)
      go_roundw
      case rel => exact ⟨_, _, rfl, HD.out⟩
      case measure =>
        show (⟨(r.drop (j + 1)).toArray⟩ : ByteArray).size + 1 < (⟨r.toArray⟩ : ByteArray).size + 1
        rw [size_eq, size_eq]
        simp
        omega
end Go.Proofs.Ytijbdinemjiepaa
