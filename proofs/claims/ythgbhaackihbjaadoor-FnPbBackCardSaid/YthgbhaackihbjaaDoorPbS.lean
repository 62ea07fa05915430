/- What Size tells of a link and of a node. -/
import Derived.Test.YthgbhaackihbjaaDoorPbN
namespace Go.Proofs.YthgbhaackihbjaaDoor
open Go.RowKit

/-- A field that is there or not. -/
def optF (key : UInt8) (o : Option (List UInt8)) : List UInt8 := match o with | some b => fieldB key b | none => []
def optN (key : UInt8) (o : Option Nat) : List UInt8 := match o with | some n => fieldN key n | none => []
def nameB (o : Option ByteArray) : Option (List UInt8) := o.map fun s => s.data.toList
def linkBytes (m : ML) : List UInt8 := optF 10 m.hash ++ (optF 18 (nameB m.name) ++ optN 24 m.size)
structure Short (m : ML) : Prop where
  h : (optBytes m.hash).length ≤ 100
  n : (optBytes (nameB m.name)).length ≤ 100
theorem fieldB_length (key : UInt8) (b : List UInt8) : (fieldB key b).length = 1 + (uv b.length).length + b.length := by simp [fieldB]; omega
theorem uv_short {n : Nat} (h : n < 128) : (uv n).length = 1 := by rw [uv_small h]; rfl

set_option maxRecDepth 100000 in
set_option maxHeartbeats 1000000 in
theorem linkSize_any (p lo B : Nat) (m : ML) (w : World) (h : LinkObj w lo B p m) (hs : Short m) :
    Calls Tryd.prog 36 #[.pointer (some ⟨p, 0, none⟩)] w fun e w' => e = .returned (.int .i64 ((linkBytes m).length : Nat)) ∧ w = w' := by
  obtain ⟨hash, name, size⟩ := m
  obtain ⟨_, _, ⟨v0, a0, b0⟩, ⟨v1, a1, b1⟩, ⟨v2, a2, b2⟩, un⟩ := h
  obtain ⟨hs1, hs2⟩ := hs
  simp only at b0 b1 b2 hs1 hs2
  obtain ⟨A, c, rfl, hA, _, _, _⟩ := b0
  go_enter Tryd.func36, Tryd.ntmps36
  go_upto_if 11 with fail
  go_cut [2, 3] (fun s2 _ wx => ∃ n1 : Nat, s2 = .int .i64 n1 ∧ Hid (n1 = (optF 10 hash).length) ∧ n1 ≤ 102 ∧ wx = w)
  case first =>
    cases hash with
    | none =>
      obtain rfl : A = none := by simpa using hA
      go_wp2
      go_meet
      exact ⟨0, rfl, rfl, by omega, rfl⟩
    | some hb =>
      obtain ⟨ad, rfl⟩ : ∃ ad, A = some ad := by
        cases A with
        | none => simp at hA
        | some ad => exact ⟨ad, rfl⟩
      have hn : hb.length ≤ 100 := hs1
      have e1 : (uv hb.length).length = 1 := uv_short (by omega)
      have e0 : (optF 10 (some hb)).length = 1 + hb.length + 1 := by
        show (fieldB 10 hb).length = _
        rw [fieldB_length, e1]; omega
      have HE0 := Lib.hid e0
      have HE1 := Lib.hid e1
      clear e0 e1 hs1
      change w.cell? _ = some (.slice _ hb.length c) at a0
      generalize hb.length = n at HE0 HE1 a0 hn
      go_wp2_with (go_at_call 35; refine (sov_any n _ (by omega)).mono ?_; rw [HE1.out]; rintro e w' ⟨rfl, rfl⟩)
      go_meet
      exact ⟨1 + n + 1, by go_num, HE0.out.symm, by omega, rfl⟩
  case rest =>
    obtain ⟨n1, rfl, HN1, hn1, rfl⟩ := hcut
    clear a0
    rcases b1 with ⟨rfl, rfl⟩ | ⟨s, q, rfl, hq1, hq2, rfl, hq3⟩
    · rcases b2 with ⟨rfl, rfl⟩ | ⟨y, q2, rfl, hy, hq4, hq5, rfl, hq6⟩
      · go_wp2
        go_ret
        have h := HN1.out
        simp [linkBytes, nameB, optF, optN] at h ⊢
        omega
      · generalize hu : (uv y).length = u
        have hu10 := uv_le y hy
        rw [hu] at hu10
        have HU := Lib.hid hu
        have HY := Lib.hid hy
        clear hu hy
        go_wp2_with (go_at_call 35; refine (sov_any y _ HY.out).mono ?_; rw [HU.out]; rintro e w' ⟨rfl, rfl⟩)
        go_ret
        have h := HN1.out
        have h2 := HU.out
        simp [linkBytes, nameB, optF, optN, fieldN] at h ⊢
        omega
    · have hss : (nameB (some s)) = some s.data.toList := rfl
      have hsl : s.data.toList.length = s.size := Array.length_toList
      have hn : s.size ≤ 100 := by
        rw [hss] at hs2
        rw [← hsl]
        exact hs2
      have e1 : (uv s.size).length = 1 := uv_short (by omega)
      have HE1 := Lib.hid e1
      have HSL := Lib.hid hsl
      clear e1 hsl hs2 hss
      generalize hm : s.size = m at hn HE1 HSL
      have HM := Lib.hid hm
      rcases b2 with ⟨rfl, rfl⟩ | ⟨y, q2, rfl, hy, hq4, hq5, rfl, hq6⟩
      · go_wp2_with (go_at_call 35; refine (sov_any m _ (by omega)).mono ?_; rw [HE1.out]; rintro e w' ⟨rfl, rfl⟩)
        go_ret
        have h := HN1.out
        have h3 : (fieldB 18 s.data.toList).length = 1 + 1 + m := by rw [fieldB_length, HSL.out, HE1.out]
        simp [linkBytes, nameB, optF, optN] at h h3 ⊢
        omega
      · generalize hu : (uv y).length = u
        have hu10 := uv_le y hy
        rw [hu] at hu10
        have HU := Lib.hid hu
        have HY := Lib.hid hy
        clear hu hy
        go_wp2_with (first | (go_at_call 35; refine (sov_any m _ (by omega)).mono ?_; rw [HE1.out]; rintro e w' ⟨rfl, rfl⟩) | (go_at_call 35; refine (sov_any y _ HY.out).mono ?_; rw [HU.out]; rintro e w' ⟨rfl, rfl⟩) | fail)
        go_ret
        have h := HN1.out
        have h2 := HU.out
        have h3 : (fieldB 18 s.data.toList).length = 1 + 1 + m := by rw [fieldB_length, HSL.out, HE1.out]
        simp [linkBytes, nameB, optF, optN, fieldN] at h h3 ⊢
        omega
end Go.Proofs.YthgbhaackihbjaaDoor
