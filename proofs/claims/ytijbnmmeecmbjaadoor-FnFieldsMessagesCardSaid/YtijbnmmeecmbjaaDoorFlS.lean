/- A message Data of UnixFS as it is written: the struct in memory, its bytes, and what Size tells. -/
import Derived.Deep.Cut
import Derived.Test.YtijbnmmeecmbjaaDoorFlT
namespace Go.Proofs.YtijbnmmeecmbjaaDoor
open Go.RowKit

structure MD where
  ty : Nat
  data : Option (List UInt8)
  fs : Option Nat
  hash : Option Nat
  fan : Option Nat
def optBytes (o : Option (List UInt8)) : List UInt8 := o.getD []
def optF (key : UInt8) (o : Option (List UInt8)) : List UInt8 := match o with | some b => fieldB key b | none => []
def optN (key : UInt8) (o : Option Nat) : List UInt8 := match o with | some n => fieldN key n | none => []
def tailBytes (m : MD) : List UInt8 := optF 18 m.data ++ (optN 24 m.fs ++ (optN 40 m.hash ++ optN 48 m.fan))
def msgBytes (m : MD) : List UInt8 := fieldN 8 m.ty ++ tailBytes m
/-- Bytes that are there or not; a number that is there or not. -/
def OptSl (w : World) (B : Nat) (v : Value) (o : Option (List UInt8)) : Prop :=
  ∃ A c, v = .slice A (optBytes o).length c ∧ A.isNone = o.isNone ∧ (optBytes o).length ≤ c ∧ Reads w B 1 A (optBytes o).length (u8s (optBytes o))
def OptN (w : World) (B : Nat) (v : Value) (o : Option Nat) : Prop :=
  (o = none ∧ v = .pointer none) ∨ ∃ n q, o = some n ∧ n < 18446744073709551616 ∧ q < B ∧ v = .pointer (some ⟨q, 0, none⟩) ∧ w.cell? ⟨q, 0, none⟩ = some (.int .u64 (n : Int))
structure DObj (w : World) (B p : Nat) (m : MD) : Prop where
  lt : p < B
  ty : ∃ q, w.cell? ⟨p, 0, none⟩ = some (.pointer (some ⟨q, 0, none⟩)) ∧ q < B ∧ w.cell? ⟨q, 0, none⟩ = some (.int .i32 (m.ty : Int))
  data : ∃ v, w.cell? ⟨p, 1, none⟩ = some v ∧ OptSl w B v m.data
  fs : ∃ v, w.cell? ⟨p, 2, none⟩ = some v ∧ OptN w B v m.fs
  sizes : w.cell? ⟨p, 3, none⟩ = some (.slice none 0 0)
  hash : ∃ v, w.cell? ⟨p, 4, none⟩ = some v ∧ OptN w B v m.hash
  fan : ∃ v, w.cell? ⟨p, 5, none⟩ = some v ∧ OptN w B v m.fan
  un : w.cell? ⟨p, 6, none⟩ = some (.slice none 0 0)
theorem OptSl.below {w w' : World} {B : Nat} {v : Value} {o : Option (List UInt8)} (h : OptSl w B v o) (hb : Below B w w') : OptSl w' B v o := by
  obtain ⟨A, c, h1, h2, h3, h4⟩ := h
  exact ⟨A, c, h1, h2, h3, h4.below hb⟩
theorem OptN.below {w w' : World} {B : Nat} {v : Value} {o : Option Nat} (h : OptN w B v o) (hb : Below B w w') : OptN w' B v o := by
  rcases h with h | ⟨n, q, h1, h2, h3, h4, h5⟩
  · exact .inl h
  · exact .inr ⟨n, q, h1, h2, h3, h4, (hb.cell (p := ⟨q, 0, none⟩) h3).trans h5⟩
theorem DObj.below {w w' : World} {B p : Nat} {m : MD} (h : DObj w B p m) (hb : Below B w w') : DObj w' B p m := by
  obtain ⟨lt, ⟨q, a0, q0, b0⟩, ⟨v1, a1, b1⟩, ⟨v2, a2, b2⟩, a3, ⟨v4, a4, b4⟩, ⟨v5, a5, b5⟩, un⟩ := h
  have hc : ∀ i, w'.cell? ⟨p, i, none⟩ = w.cell? ⟨p, i, none⟩ := fun i => hb.cell (p := ⟨p, i, none⟩) lt
  exact ⟨lt, ⟨q, (hc 0).trans a0, q0, (hb.cell (p := ⟨q, 0, none⟩) q0).trans b0⟩, ⟨v1, (hc 1).trans a1, b1.below hb⟩, ⟨v2, (hc 2).trans a2, b2.below hb⟩, (hc 3).trans a3, ⟨v4, (hc 4).trans a4, b4.below hb⟩, ⟨v5, (hc 5).trans a5, b5.below hb⟩, (hc 6).trans un⟩
theorem OptN.ptr {w : World} {B : Nat} {v : Value} {o : Option Nat} (h : OptN w B v o) : ∃ P : Option Addr, v = .pointer P ∧ P.isNone = o.isNone := by
  rcases h with ⟨rfl, rfl⟩ | ⟨y, q, rfl, _, _, rfl, _⟩
  · exact ⟨none, rfl, rfl⟩
  · exact ⟨some _, rfl, rfl⟩
structure ShortD (m : MD) : Prop where
  t : m.ty < 128
  d : (optBytes m.data).length ≤ 2000
theorem fieldB_length (key : UInt8) (b : List UInt8) : (fieldB key b).length = 1 + (uv b.length).length + b.length := by simp [fieldB]; omega
theorem uv_short {n : Nat} (h : n < 128) : (uv n).length = 1 := by rw [uv_small h]; rfl
theorem uv_two {n : Nat} (h : n < 16384) : (uv n).length ≤ 2 := by
  by_cases h1 : n < 128
  · rw [uv_short h1]; omega
  · rw [uv_great h1, List.length_cons, uv_short (by omega)]; omega
theorem optN_le {w : World} {B : Nat} {v : Value} {o : Option Nat} (key : UInt8) (h : OptN w B v o) : (optN key o).length ≤ 11 := by
  rcases h with ⟨rfl, _⟩ | ⟨y, q2, rfl, hy, _⟩
  · simp [optN]
  · have := uv_le y hy
    simp [optN, fieldN]
    omega
theorem optN_some (key : UInt8) (y : Nat) : (optN key (some y)).length = 1 + (uv y).length := by simp [optN, fieldN, Nat.add_comm]
theorem optF_some (key : UInt8) (b : List UInt8) : (optF key (some b)).length = 1 + b.length + (uv b.length).length := by
  show (fieldB key b).length = _
  rw [fieldB_length]; omega
set_option maxRecDepth 100000 in
set_option maxHeartbeats 2000000 in
theorem size_of_any (p B : Nat) (m : MD) (w : World) (h : DObj w B p m) (hs : ShortD m) :
    Calls Tryd.prog 58 #[.pointer (some ⟨p, 0, none⟩)] w fun e w' => e = .returned (.int .i64 ((msgBytes m).length : Nat)) ∧ w = w' := by
  obtain ⟨ty, data, fs, hash, fan⟩ := m
  obtain ⟨lt, ⟨q0, a0, -, b0⟩, ⟨v1, a1, A, c, rfl, hA, -, -⟩, ⟨v2, a2, b2⟩, a3, ⟨v4, a4, b4⟩, ⟨v5, a5, b5⟩, un⟩ := h
  obtain ⟨ht, hd⟩ := hs
  simp only at b0 b2 b4 b5 ht hd hA a1
  have et : (uv ty).length = 1 := uv_short ht
  have h2 := optN_le 24 b2
  have h4 := optN_le 40 b4
  have h5 := optN_le 48 b5
  have hlen : (msgBytes ⟨ty, data, fs, hash, fan⟩).length = 2 + ((optF 18 data).length + ((optN 24 fs).length + ((optN 40 hash).length + (optN 48 fan).length))) := by
    simp only [msgBytes, tailBytes, fieldN, List.length_append, List.length_cons, et]
  rw [hlen]
  have ET := Lib.hid et
  have H2 := Lib.hid h2
  have H4 := Lib.hid h4
  have H5 := Lib.hid h5
  clear et hlen h2 h4 h5
  go_enter Tryd.func58, Tryd.ntmps58
  go_upto_if 28 with (first | (go_at_call 63; refine (sov_any ty _ (by omega)).mono ?_; rw [ET.out]; rintro e w' ⟨rfl, rfl⟩) | fail)
  go_cut [2, 3] from 29 (fun s2 _ wx => s2 = .int .i64 ((2 + (optF 18 data).length : Nat) : Int) ∧ wx = w)
  case first =>
    cases data with
    | none =>
      obtain rfl : A = none := by simpa using hA
      go_wp2
      go_meet
      exact ⟨rfl, rfl⟩
    | some hb =>
      obtain ⟨ad, rfl⟩ : ∃ ad, A = some ad := by
        cases A with
        | none => simp at hA
        | some ad => exact ⟨ad, rfl⟩
      have hn : hb.length ≤ 2000 := hd
      have e0 := optF_some 18 hb
      have hu := uv_two (n := hb.length) (by omega)
      change w.cell? _ = some (.slice _ hb.length c) at a1
      have E0 := Lib.hid e0
      clear hd e0
      generalize hul : (uv hb.length).length = u at *
      have HUL := Lib.hid hul
      clear hul
      generalize hb.length = n at *
      go_wp2_with (first | (go_at_call 63; refine (sov_any n _ (by omega)).mono ?_; rw [HUL.out]; rintro e w' ⟨rfl, rfl⟩) | fail)
      go_meet
      exact ⟨by rw [E0.out]; go_num, rfl⟩
  case rest =>
    obtain ⟨rfl, rfl⟩ := hcut
    have hF : (optF 18 data).length ≤ 2003 := by
      cases data with
      | none => simp [optF]
      | some hb =>
        have hn : hb.length ≤ 2000 := hd
        have hu := uv_two (n := hb.length) (by omega)
        rw [optF_some]; omega
    generalize hLF : (optF 18 data).length = LF at *
    have HLF := Lib.hid hLF
    clear a1 hd hLF
    obtain ⟨P2, rfl, hP2⟩ := b2.ptr
    obtain ⟨P4, rfl, hP4⟩ := b4.ptr
    obtain ⟨P5, rfl, hP5⟩ := b5.ptr
    have h2 := H2.out
    have h4 := H4.out
    have h5 := H5.out
    go_upto_if 46 with fail
    go_cut [2] from 47 (fun s2 wx => s2 = .int .i64 ((2 + LF + (optN 24 fs).length : Nat) : Int) ∧ wx = wc)
    case first =>
      rcases b2 with ⟨rfl, hv⟩ | ⟨y, q, rfl, hy, hq2, hv, hq⟩
      · injection hv with hv
        subst hv
        go_wp2
        go_meet
        exact ⟨rfl, rfl⟩
      · injection hv with hv
        subst hv
        have E0 := Lib.hid (optN_some 24 y)
        have hu10 := uv_le y hy
        clear h2
        generalize hul : (uv y).length = u at *
        have HUL := Lib.hid hul
        have HY := Lib.hid hy
        clear hul hy
        go_wp2_with (first | (go_at_call 63; refine (sov_any y _ HY.out).mono ?_; rw [HUL.out]; rintro e w' ⟨rfl, rfl⟩) | fail)
        go_meet
        exact ⟨by rw [E0.out]; go_num, rfl⟩
    case rest =>
      obtain ⟨rfl, rfl⟩ := hcut
      generalize hL2 : (optN 24 fs).length = L2 at *
      have HL2 := Lib.hid hL2
      clear hL2
      clear a2 hP2 b2
      go_upto_if 82 with fail
      go_cut [2] from 83 (fun s2 wx => s2 = .int .i64 ((2 + LF + L2 + (optN 40 hash).length : Nat) : Int) ∧ wx = wc)
      case first =>
        rcases b4 with ⟨rfl, hv⟩ | ⟨y, q, rfl, hy, hq2, hv, hq⟩
        · injection hv with hv
          subst hv
          go_wp2
          go_meet
          exact ⟨rfl, rfl⟩
        · injection hv with hv
          subst hv
          have E0 := Lib.hid (optN_some 40 y)
          have hu10 := uv_le y hy
          clear h4
          generalize hul : (uv y).length = u at *
          have HUL := Lib.hid hul
          have HY := Lib.hid hy
          clear hul hy
          go_wp2_with (first | (go_at_call 63; refine (sov_any y _ HY.out).mono ?_; rw [HUL.out]; rintro e w' ⟨rfl, rfl⟩) | fail)
          go_meet
          exact ⟨by rw [E0.out]; go_num, rfl⟩
      case rest =>
        obtain ⟨rfl, rfl⟩ := hcut
        generalize hL4 : (optN 40 hash).length = L4 at *
        have HL4 := Lib.hid hL4
        clear hL4
        clear a4 hP4 b4
        rcases b5 with ⟨rfl, hv⟩ | ⟨y, q, rfl, hy, hq2, hv, hq⟩
        · injection hv with hv
          subst hv
          go_wp2
          go_ret
          refine ⟨?_, rfl⟩
          exact congrArg (fun z => Ending.returned (.int .i64 z)) (by have a := HLF.out; have b := HL2.out; have c := HL4.out; have d : (optN 48 none).length = 0 := rfl; omega)
        · injection hv with hv
          subst hv
          have E0 := Lib.hid (optN_some 48 y)
          have hu10 := uv_le y hy
          clear h5
          generalize hul : (uv y).length = u at *
          have HUL := Lib.hid hul
          have HY := Lib.hid hy
          clear hul hy
          go_wp2_with (first | (go_at_call 63; refine (sov_any y _ HY.out).mono ?_; rw [HUL.out]; rintro e w' ⟨rfl, rfl⟩) | fail)
          go_ret
          refine ⟨?_, rfl⟩
          exact congrArg (fun z => Ending.returned (.int .i64 z)) (by have a := HLF.out; have b := HL2.out; have c := HL4.out; have d := E0.out; omega)
end Go.Proofs.YtijbnmmeecmbjaaDoor
