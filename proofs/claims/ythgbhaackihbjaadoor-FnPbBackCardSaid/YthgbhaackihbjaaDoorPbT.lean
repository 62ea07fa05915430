/- What Size tells of a node. -/
import Derived.Test.YthgbhaackihbjaaDoorPbS
namespace Go.Proofs.YthgbhaackihbjaaDoor
open Go.RowKit

def linksBytes (ls : List ML) : List UInt8 := (ls.map fun l => fieldB 18 (linkBytes l)).flatten
theorem linksBytes_take (ls : List ML) (j : Nat) (h : j < ls.length) : linksBytes (ls.take (j + 1)) = linksBytes (ls.take j) ++ fieldB 18 (linkBytes ls[j]) := by
  unfold linksBytes
  rw [take_snoc _ _ h, List.map_append, List.flatten_append]
  simp only [List.map_cons, List.map_nil, List.flatten_cons, List.flatten_nil, List.append_nil]
def nodeBytes (m : MN) : List UInt8 := linksBytes m.links ++ optF 10 m.data
structure ShortN (m : MN) : Prop where
  ls : ∀ l ∈ m.links, Short l
  k : m.links.length ≤ 20
  d : (optBytes m.data).length ≤ 500
theorem optF_le (key : UInt8) (o : Option (List UInt8)) (h : (optBytes o).length ≤ 100) : (optF key o).length ≤ 102 := by
  cases o with
  | none => simp [optF]
  | some b =>
    show (fieldB key b).length ≤ 102
    have hb : b.length ≤ 100 := h
    rw [fieldB_length, uv_short (by omega)]
    omega
theorem optN_le {w : World} {lo B : Nat} {v : Value} {o : Option Nat} (key : UInt8) (h : OptNum w lo B v o) : (optN key o).length ≤ 11 := by
  rcases h with ⟨rfl, _⟩ | ⟨y, q2, rfl, hy, _⟩
  · simp [optN]
  · have := uv_le y hy
    simp [optN, fieldN]
    omega
theorem linkBytes_le {w : World} {lo B p : Nat} {m : ML} (h : LinkObj w lo B p m) (hs : Short m) : (linkBytes m).length ≤ 215 := by
  obtain ⟨v2, _, b2⟩ := h.sz
  have h1 := optF_le 10 m.hash hs.h
  have h2 := optF_le 18 (nameB m.name) hs.n
  have h3 := optN_le 24 b2
  simp only [linkBytes, List.length_append]
  omega
theorem uv_two {n : Nat} (h : n < 16384) : (uv n).length ≤ 2 := by
  by_cases h1 : n < 128
  · rw [uv_short h1]; omega
  · rw [uv_great h1, List.length_cons, uv_short (by omega)]; omega
set_option maxRecDepth 100000 in
set_option maxHeartbeats 1000000 in
theorem nodeSize_any (p lo B : Nat) (m : MN) (w : World) (h : NodeObj w lo B p m) (hs : ShortN m) :
    Calls Tryd.prog 25 #[.pointer (some ⟨p, 0, none⟩)] w fun e w' => e = .returned (.int .i64 ((nodeBytes m).length : Nat)) ∧ w = w' := by
  obtain ⟨links, data⟩ := m
  obtain ⟨_, _, ⟨A2, n2, c2, ps, a0, _, hln, hr2, hps⟩, ⟨v1, a1, b1⟩, un⟩ := h
  obtain ⟨hs1, hs2, hs3⟩ := hs
  simp only at b1 hs1 hs2 hs3 hln hps
  obtain ⟨A, c, rfl, hA, _, _, _⟩ := b1
  have HR2 := Lib.hid hr2
  have HPS := Lib.hid hps
  have HS1 := Lib.hid hs1
  have HLN := Lib.hid hln
  have hn2 : n2 ≤ 20 := by omega
  clear hr2 hps hs1 hln hs2
  go_enter Tryd.func25, Tryd.ntmps25
  go_upto_if 13 with fail
  go_cut [2, 3] (fun s2 _ wx => ∃ n1 : Nat, s2 = .int .i64 n1 ∧ Hid (n1 = (optF 10 data).length) ∧ n1 ≤ 510 ∧ wx = w)
  case first =>
    cases data with
    | none =>
      obtain rfl : A = none := by simpa using hA
      go_wp2
      go_meet
      exact ⟨0, rfl, rfl, by omega, rfl⟩
    | some hb =>
      obtain ⟨ad, rfl⟩ : ∃ ad, A = some ad := by
        cases A with
        | none => simp at hA
        | some ad => exact ⟨ad, rfl⟩
      have hn : hb.length ≤ 500 := hs3
      have e1 := uv_two (n := hb.length) (by omega)
      have e0 : (optF 10 (some hb)).length = 1 + hb.length + (uv hb.length).length := by
        show (fieldB 10 hb).length = _
        rw [fieldB_length]; omega
      generalize hu : (uv hb.length).length = u at e0 e1
      have HE0 := Lib.hid e0
      have HU := Lib.hid hu
      clear e0 hu hs3
      change w.cell? _ = some (.slice _ hb.length c) at a1
      generalize hb.length = n at HE0 HU a1 hn
      go_wp2_with (go_at_call 35; refine (sov_any n _ (by omega)).mono ?_; rw [HU.out]; rintro e w' ⟨rfl, rfl⟩)
      go_meet
      exact ⟨1 + n + u, by go_num, HE0.out.symm, by omega, rfl⟩
  case rest =>
    obtain ⟨n1, rfl, HN1, hn1, rfl⟩ := hcut
    clear a1 hs3
    by_cases hpos : 0 < n2
    · obtain ⟨b, o, rfl, hbB, hc⟩ := HR2.out.lit hpos
      have HC := Lib.hid hc
      clear hc
      have hg : decide ((0 : Int) < (n2 : Int)) = true := by simp; omega
      go_wp2
      obtain ⟨wo, rfl⟩ : ∃ wo : World, wo = wc := ⟨_, rfl⟩
      go_loopw [2, 3, 5, 38] (fun s _ _ i wr => wr = wo ∧ ∃ j acc : Nat, j ≤ n2 ∧ i = .int .i64 j ∧ s = .int .i64 acc ∧ acc ≤ 510 + 300 * j ∧ Hid (acc = n1 + (linksBytes (links.take j)).length)) (fun _ _ _ i _ => n2 - (intOf i).toNat)
      case atStart => exact ⟨rfl, 0, n1, by omega, rfl, rfl, by omega, by show n1 = _; simp [linksBytes]⟩
      case round =>
        obtain ⟨rfl, j, acc, hj, rfl, rfl, hacc, HACC⟩ := hrel
        by_cases hlt : j < n2
        · have hpl : ps.length = n2 := by have := HR2.out.1; rw [ptrs_length] at this; omega
          have hjp : j < ps.length := by omega
          have hcj := HC.out j (.pointer (some ⟨ps[j], 0, none⟩)) (by simp [ptrs, hjp])
          obtain ⟨x, hx, hlo⟩ := HPS.out j ps[j] (List.getElem?_eq_getElem hjp)
          have hjl : j < links.length := by have := HLN.out; omega
          have hxe : links[j] = x := by
            rw [List.getElem?_eq_getElem hjl] at hx
            injection hx
          have hxs : Short x := HS1.out x (hxe ▸ List.getElem_mem hjl)
          have htk := linksBytes_take links j hjl
          rw [hxe] at htk
          have hle := linkBytes_le hlo hxs
          have hu2 := uv_two (n := (linkBytes x).length) (by omega)
          have hfl := fieldB_length 18 (linkBytes x)
          have hcall := linkSize_any ps[j] lo B x wr hlo hxs
          have htl := congrArg List.length htk
          rw [List.length_append, hfl] at htl
          generalize ps[j] = q at hcj hcall
          generalize (linkBytes x).length = L at hle hu2 htl hcall
          generalize hu : (uv L).length = u at hu2 htl
          have HU := Lib.hid hu
          have HTL := Lib.hid htl
          have HCALL := Lib.hid hcall
          clear hx hlo hxe hxs htk hfl hcall htl hu hpl hjp
          go_wp2_with (first | (go_at_call 36; refine HCALL.out.mono ?_; rintro e w' ⟨rfl, rfl⟩) | (go_at_call 35; refine (sov_any L _ (by omega)).mono ?_; rw [HU.out]; rintro e w' ⟨rfl, rfl⟩) | fail)
          go_roundw
          case rel => exact ⟨trivial, j + 1, acc + (1 + L + u), by omega, by go_num, by go_num, by omega, by have := HACC.out; have := HTL.out; show _ = _; omega⟩
          case measure => simp [intOf]; omega
        · have hjn : j = n2 := by omega
          have hacc2 := HACC.out
          rw [List.take_of_length_le (by have := HLN.out; omega)] at hacc2
          have HA2 := Lib.hid hacc2
          clear hacc2 HACC hjn
          go_wp2
          go_ret
          have h1 := HA2.out
          have h2 := HN1.out
          simp [nodeBytes]
          omega
    · obtain rfl : n2 = 0 := by omega
      go_wp2
      go_ret
      have h2 := HN1.out
      have h3 : links = [] := List.length_eq_zero_iff.mp HLN.out
      simp [nodeBytes, linksBytes, h3]
      omega
end Go.Proofs.YthgbhaackihbjaaDoor
