/- Marshal of a message Data. -/
import Derived.Test.YtijbnmmeecmbjaaDoorFlU
namespace Go.Proofs.YtijbnmmeecmbjaaDoor
open Go.RowKit

theorem optF_le (key : UInt8) (o : Option (List UInt8)) (h : (optBytes o).length ≤ 2000) : (optF key o).length ≤ 2003 := by
  cases o with
  | none => simp [optF]
  | some b =>
    have hb : b.length ≤ 2000 := h
    have := uv_two (n := b.length) (by omega)
    rw [optF_some]
    omega
theorem msgBytes_le {w : World} {B p : Nat} {m : MD} (h : DObj w B p m) (hs : ShortD m) : (msgBytes m).length ≤ 2100 := by
  obtain ⟨v2, -, b2⟩ := h.fs
  obtain ⟨v4, -, b4⟩ := h.hash
  obtain ⟨v5, -, b5⟩ := h.fan
  have h2 := optN_le 24 b2
  have h4 := optN_le 40 b4
  have h5 := optN_le 48 b5
  have h1 := optF_le 18 m.data hs.d
  have ht := uv_short hs.t
  rw [msg_len]
  omega
/-- The bytes come back in a block of their own. -/
structure Wrote (w : World) (bs : List UInt8) (v : Value) (w' : World) : Prop where
  ex : ∃ g c, v = .slice (some ⟨g, 0, none⟩) bs.length c ∧ bs.length ≤ c ∧ c ≤ 9223372036854775807 ∧ w.heap.size ≤ g ∧ Reads w' w'.heap.size 1 (some ⟨g, 0, none⟩) bs.length (u8s bs)
  below : Below w.heap.size w w'
/-- Bytes and no error come back. -/
structure Marshalled (w : World) (bs : List UInt8) (r : Ending) (w' : World) : Prop where
  ex : ∃ v, r = .returned (.tuple #[v, .nilIface]) ∧ Wrote w bs v w'
theorem put_all (n : Nat) (b : List UInt8) (h : b.length = n) (L : List UInt8) (hl : L.length = n) : put L 0 b = b := by
  unfold put
  rw [List.take_zero, List.nil_append, Nat.zero_add, List.drop_of_length_le (by omega), List.append_nil]
theorem wrote_put {w wx : World} {g n c : Nat} {w0 : Nat} {L S : List UInt8} (h : PutSt w g n L S 0 wx) (hl : L.length = n) (hc : n ≤ c) (hc2 : c ≤ 9223372036854775807) (hg : w0 ≤ g) (w1 : World) (hw : w1.heap.size = w0) (hb : Below w0 w1 wx) (hS : S.length = n) : Wrote w1 S (.slice (some ⟨g, 0, none⟩) n c) wx := by
  have hblk := h.blk
  rw [put_all n S hS L hl] at hblk
  subst hw
  refine ⟨⟨g, c, by rw [hS], by omega, hc2, hg, ?_⟩, hb⟩
  have hr := hblk.reads 0 n (by simp [u8s_length]; omega)
  rw [hS]
  have e : ((u8s S).toArray.toList.drop 0).take n = u8s S := by
    show (u8s S).take n = u8s S
    exact List.take_of_length_le (by rw [u8s_length]; omega)
  rw [e] at hr
  exact hr
theorem made_u8s (N : Nat) : madeCells #[.int .u8 0] N = (u8s (List.replicate N 0)).toArray := by
  apply Array.ext'
  rw [madeCells_one]
  simp [u8s]
set_option maxRecDepth 100000 in
theorem marshal_any (p B : Nat) (m : MD) (w : World) (h : DObj w B p m) (hs : ShortD m) (hB : B ≤ w.heap.size) :
    Calls Tryd.prog 44 #[.pointer (some ⟨p, 0, none⟩)] w (Marshalled w (msgBytes m)) := by
  have hle := msgBytes_le h hs
  obtain ⟨N, hN⟩ : ∃ N, (msgBytes m).length = N := ⟨_, rfl⟩
  have hsz := size_of_any p B m w h hs
  rw [hN] at hsz hle
  have hmk := run_make_one (P := Tryd.prog) 22 5 (.int .u8 0) 1 Tryd.underlying22 infoU8v rfl N (by omega) (by omega)
  rw [made_u8s] at hmk
  have hbw := below_one w (.cells (u8s (List.replicate N 0)).toArray 5)
  have hput := dataPut_any p B w.heap.size N N m (List.replicate N 0) (w.alloc (.cells (u8s (List.replicate N 0)).toArray 5)) (h.below (hbw.mono hB)) hs hB (Blk.new _ _ _) (by simp) (by omega) (Nat.le_refl _) (by omega)
  have HSZ := Lib.hid hsz
  have HPUT := Lib.hid hput
  have HN := Lib.hid hN
  clear hsz hput hN
  go_enter Tryd.func44, Tryd.ntmps44
  go_wp2_with (first | (go_at_call 58; refine HSZ.out.mono ?_; rintro e w' ⟨rfl, rfl⟩) | (go_at_call 59; refine HPUT.out.mono ?_; rintro e w2 ⟨rfl, hst⟩; rw [HN.out, Nat.sub_self] at hst; have HST := Lib.hid hst; clear hst; rw [HN.out]) | fail)
  go_ret2
  exact ⟨⟨_, rfl, wrote_put HST.out (by simp) (Nat.le_refl _) (by omega) (Nat.le_refl _) w rfl ((below_one _ _).trans HST.out.only) HN.out⟩⟩
/-- A struct that is known whole, and its fields' cells. -/
theorem dobj_of {W : World} {B p q0 ty : Nat} {T : TypeId} {data : Option (List UInt8)} {fs hash fan : Option Nat} {v1 v2 v4 v5 : Value}
    (hb : Blk W p T #[.pointer (some ⟨q0, 0, none⟩), v1, v2, .slice none 0 0, v4, v5, .slice none 0 0, .int .i32 0]) (hq : Blk W q0 75 #[.int .i32 (ty : Int)]) (hqB : q0 < B) (hpB : p < B)
    (h1 : OptSl W B v1 data) (h2 : OptN W B v2 fs) (h4 : OptN W B v4 hash) (h5 : OptN W B v5 fan) : DObj W B p ⟨ty, data, fs, hash, fan⟩ :=
  ⟨hpB, ⟨q0, hb.cell 0, hqB, hq.cell 0⟩, ⟨v1, hb.cell 1, h1⟩, ⟨v2, hb.cell 2, h2⟩, hb.cell 3, ⟨v4, hb.cell 4, h4⟩, ⟨v5, hb.cell 5, h5⟩, hb.cell 6⟩
theorem OptN.no (W : World) (B : Nat) : OptN W B (.pointer none) none := .inl ⟨rfl, rfl⟩
theorem OptN.of_blk {W : World} {B q n : Nat} (h : Blk W q 25 #[.int .u64 (n : Int)]) (hq : q < B) (hn : n < 18446744073709551616) : OptN W B (.pointer (some ⟨q, 0, none⟩)) (some n) := .inr ⟨n, q, rfl, hn, hq, rfl, h.cell 0⟩
theorem OptSl.more {W : World} {B B' : Nat} {v : Value} {o : Option (List UInt8)} (h : OptSl W B v o) (hB : B ≤ B') : OptSl W B' v o := by
  obtain ⟨A, c, h1, h2, h3, h4⟩ := h
  exact ⟨A, c, h1, h2, h3, h4.more hB⟩
theorem OptSl.no (W : World) (B : Nat) : OptSl W B (.slice none 0 0) none := ⟨none, 0, rfl, rfl, Nat.le_refl _, Reads.none_⟩
theorem uint64_any (n : Int) (w : World) : Calls Tryd.prog 45 #[.int .u64 n] w fun e w' => e = .returned (.pointer (some ⟨w.heap.size, 0, none⟩)) ∧ w' = w.alloc (.cells #[.int .u64 n] 25) := by
  go_enter Tryd.func45, Tryd.ntmps45
  go_wp2
  go_ret
  exact ⟨rfl, rfl⟩
/-- Bytes come back. -/
structure Bytes (w : World) (bs : List UInt8) (r : Ending) (w' : World) : Prop where
  ex : ∃ v, r = .returned v ∧ Wrote w bs v w'
theorem Wrote.after {w W w' : World} {bs : List UInt8} {v : Value} (h : Wrote W bs v w') (hb : Below w.heap.size w W) : Wrote w bs v w' := by
  obtain ⟨g, c, h1, h2, h3, h4, h5⟩ := h.ex
  exact ⟨⟨g, c, h1, h2, h3, Nat.le_trans hb.size h4, h5⟩, hb.trans (h.below.mono hb.size)⟩
theorem sz1 (w : World) (o : Obj) : (w.alloc o).heap.size = w.heap.size + 1 := World.size_alloc w o
set_option maxRecDepth 100000 in
theorem filePB_any (v : Value) (B0 total : Nat) (o : Option (List UInt8)) (w : World) (h : OptSl w B0 v o) (hB : B0 ≤ w.heap.size) (hs : (optBytes o).length ≤ 2000) (ht : total < 18446744073709551616) :
    Calls Tryd.prog 36 #[v, .int .u64 (total : Int)] w (Bytes w (msgBytes ⟨2, o, some total, none, none⟩)) := by
  obtain ⟨C, hC⟩ : ∃ C : Array Value, C = #[.pointer (some ⟨w.heap.size + 1, 0, none⟩), v, .pointer (some ⟨w.heap.size + 1 + 1, 0, none⟩), .slice none 0 0, .pointer none, .pointer none, .slice none 0 0, .int .i32 0] := ⟨_, rfl⟩
  have b1 := Blk.new w 72 C
  have b2 := Blk.new (w.alloc (.cells C 72)) 75 #[.int .i32 2]
  rw [sz1] at b2
  have b3 := Blk.new ((w.alloc (.cells C 72)).alloc (.cells #[.int .i32 2] 75)) 25 #[.int .u64 (total : Int)]
  rw [sz1, sz1] at b3
  have hbl := below_alloc (below_alloc (below_one w (.cells C 72)) (.cells #[.int .i32 2] 75)) (.cells #[.int .u64 (total : Int)] 25)
  have hb1 := (b1.alloc (.cells #[.int .i32 2] 75)).alloc (.cells #[.int .u64 (total : Int)] 25)
  have hb2 := b2.alloc (.cells #[.int .u64 (total : Int)] 25)
  rw [hC] at hb1 hb2 b3 hbl
  have hobj := dobj_of (B := w.heap.size + 3) (ty := 2) (data := o) (fs := some total) (hash := none) (fan := none) hb1 hb2 (by omega) (by omega) ((h.below (hbl.mono hB)).more (by omega)) (.of_blk b3 (by omega) ht) (.no _ _) (.no _ _)
  have HM := Lib.hid (marshal_any _ _ _ _ hobj ⟨by show 2 < 128; decide, hs⟩ (by simp))
  have HBL := Lib.hid hbl
  obtain ⟨A, c, rfl, hA, hc, hr⟩ := h
  clear b1 b2 b3 hbl hobj hC hr hb1 hb2
  generalize (optBytes o).length = nd at *
  go_enter Tryd.func36, Tryd.ntmps36
  go_wp2_with (first | (go_at_call 45; refine (uint64_any _ _).mono ?_; rintro e w1 ⟨rfl, rfl⟩) | (go_at_call 44; refine HM.out.mono ?_; rintro e w2 ⟨⟨v2, rfl, hw2⟩⟩; obtain ⟨g2, c2, hv2, -⟩ := hw2.ex; have HW2 := Lib.hid hw2; clear hw2; subst hv2) | fail)
  go_ret
  exact ⟨⟨_, rfl, HW2.out.after HBL.out⟩⟩
set_option maxRecDepth 100000 in
theorem folderPB_any (w : World) : Calls Tryd.prog 38 #[] w (Bytes w [8, 1]) := by
  obtain ⟨C, hC⟩ : ∃ C : Array Value, C = #[.pointer (some ⟨w.heap.size + 1, 0, none⟩), .slice none 0 0, .pointer none, .slice none 0 0, .pointer none, .pointer none, .slice none 0 0, .int .i32 0] := ⟨_, rfl⟩
  have b1 := Blk.new w 72 C
  have b2 := Blk.new (w.alloc (.cells C 72)) 75 #[.int .i32 1]
  rw [sz1] at b2
  have hbl := below_alloc (below_one w (.cells C 72)) (.cells #[.int .i32 1] 75)
  have hb1 := b1.alloc (.cells #[.int .i32 1] 75)
  rw [hC] at hb1 b2 hbl
  have hobj := dobj_of (B := w.heap.size + 2) (ty := 1) (data := none) (fs := none) (hash := none) (fan := none) hb1 b2 (by omega) (by omega) (.no _ _) (.no _ _) (.no _ _) (.no _ _)
  have HM := Lib.hid (marshal_any _ _ _ _ hobj ⟨by decide, by decide⟩ (by simp))
  have hm : msgBytes ⟨1, none, none, none, none⟩ = [8, 1] := by
    show 8 :: uv 1 ++ [] = _
    rw [uv_small (by decide)]
    rfl
  rw [hm] at HM
  have HBL := Lib.hid hbl
  clear b1 b2 hbl hobj hC hm hb1
  go_enter Tryd.func38, Tryd.ntmps38
  go_wp2_with (first | (go_at_call 44; refine HM.out.mono ?_; rintro e w2 ⟨⟨v2, rfl, hw2⟩⟩; obtain ⟨g2, c2, hv2, -⟩ := hw2.ex; have HW2 := Lib.hid hw2; clear hw2; subst hv2) | fail)
  go_ret
  exact ⟨⟨_, rfl, HW2.out.after HBL.out⟩⟩
end Go.Proofs.YtijbnmmeecmbjaaDoor
