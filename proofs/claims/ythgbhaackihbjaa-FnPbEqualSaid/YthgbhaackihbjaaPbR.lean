/- The reference's bytes of a message. -/
import Derived.Test.YthgbhaackihbjaaPbL
namespace Go.Proofs.Ythgbhaackihbjaa
open Go.RowKit

theorem SoFar.later {wb wx wy : World} {v : Value} {bs : List UInt8} (h : SoFar wb wx v bs) (hb : Below wx.heap.size wx wy) : SoFar wb wy v bs := ⟨own_below h.own hb, below_then h.below h.below.size hb⟩
theorem linkBytes_len (l : PLk) (h1 : l.hash.length ≤ 100) (h2 : l.name.size ≤ 100) (h3 : l.size < 18446744073709551616) : (linkBytes (ml l)).length ≤ 215 := by
  have e1 : (optF 10 (ml l).hash).length ≤ 102 := optF_le 10 _ (by cases hh : l.hh <;> simp [ml, hh, optBytes, h1])
  have e2 : (optF 18 (nameB (ml l).name)).length ≤ 102 := optF_le 18 _ (by cases hh : l.hn <;> simp [ml, hh, optBytes, nameB, show l.name.data.toList.length = l.name.size from Array.length_toList, h2])
  have e3 : (optN 24 (ml l).size).length ≤ 11 := by
    have := uv_le l.size h3
    cases hh : l.hs <;> simp [ml, hh, optN, fieldN]
    omega
  rw [linkBytes, List.length_append, List.length_append]
  omega
theorem fieldB_215 {b : List UInt8} (h : b.length ≤ 215) : (fieldB 18 b).length ≤ 226 := by
  have := uv_le b.length (by omega)
  rw [fieldB_length]
  omega
theorem links_len (ls : List PLk) (h : ∀ l ∈ ls, l.hash.length ≤ 100 ∧ l.name.size ≤ 100 ∧ l.size < 18446744073709551616) : (linksBytes (ls.map ml)).length ≤ ls.length * 226 := by
  induction ls with
  | nil => simp [linksBytes]
  | cons l ls ih =>
    have h1 := h l List.mem_cons_self
    have h2 := ih fun y hy => h y (List.mem_cons_of_mem _ hy)
    have h3 := fieldB_215 (linkBytes_len l h1.1 h1.2.1 h1.2.2)
    have e : linksBytes ((l :: ls).map ml) = fieldB 18 (linkBytes (ml l)) ++ linksBytes (ls.map ml) := by simp [linksBytes]
    rw [e, List.length_append, List.length_cons]
    omega
theorem Links.ok {w : World} {B n : Nat} {A : Option Addr} {ls : List PLk} (h : Links w B A n ls) : ∀ l ∈ ls, l.size < 18446744073709551616 := by
  intro l hl
  obtain ⟨i, hi, rfl⟩ := List.mem_iff_getElem.mp hl
  obtain ⟨b, o, _, _, hc⟩ := h.2.2 (by have := h.1; omega)
  exact (hc i ls[i] (List.getElem?_eq_getElem hi)).ok
/-- The bytes of the first j links, with the next one's, are those of the first j + 1. -/
theorem links_step (ls : List PLk) (j : Nat) (h : j < ls.length) : linksBytes ((ls.take j).map ml) ++ fieldB 18 (linkBytes (ml ls[j])) = linksBytes ((ls.take (j + 1)).map ml) := by
  have h' := linksBytes_take (ls.map ml) j (by simpa using h)
  rw [← List.map_take, ← List.map_take] at h'
  rw [h']
  simp
set_option maxRecDepth 100000 in
set_option maxHeartbeats 1000000 in
theorem specBytes_any (x : PNd) (v : Value) (B : Nat) (w : World) (hx : NodeArg w B x v) (hB : B ≤ w.heap.size) (hs : Small x) :
    Calls Try.prog 10 #[v] w (Owns w 5 1 (nodeBytes (mn x)).length (u8s (nodeBytes (mn x)))) := by
  obtain ⟨A, n, c, A2, n2, c2, rfl, hnc, hcm, hr, hn2, hl⟩ := hx.ex
  obtain ⟨has, data, links⟩ := x
  simp only at hr hl hnc ⊢
  obtain ⟨i0, hi, hz0, hz1, hz2⟩ := info_parts infoU8
  have hdn := data_len hr
  have hln := hl.1
  have hok := hl.ok
  have hd500 : data.length ≤ 500 := hs.d
  have hk20 : links.length ≤ 20 := hs.k
  have HSH : Hid (∀ l ∈ links, l.hash.length ≤ 100) := hs.h
  have HSN : Hid (∀ l ∈ links, l.name.size ≤ 100) := hs.n
  have hlen : ∀ j, (linksBytes ((links.take j).map ml)).length ≤ 20 * 226 := fun j => by
    have h := links_len (links.take j) fun l hl => ⟨HSH.out l (List.mem_of_mem_take hl), HSN.out l (List.mem_of_mem_take hl), hok l (List.mem_of_mem_take hl)⟩
    have h2 : (links.take j).length ≤ 20 := by rw [List.length_take]; omega
    omega
  have HLEN := Lib.hid hlen
  have HOK := Lib.hid hok
  have hst0 : SoFar (w.alloc (.cells #[.bool has, .slice A n c, .slice A2 n2 c2] 25)) ((w.alloc (.cells #[.bool has, .slice A n c, .slice A2 n2 c2] 25)).alloc (.cells #[] 5)) (.slice (some ⟨w.heap.size + 1, 0, none⟩) 0 0) [] := by
    have h := own_lit (w.alloc (.cells #[.bool has, .slice A n c, .slice A2 n2 c2] 25)) 5 [] (by simp [maxLen])
    refine ⟨?_, below_one _ _⟩
    rw [World.size_alloc] at h ⊢
    exact h
  have HST0 := Lib.hid hst0
  have HWB : Hid ((w.alloc (.cells #[.bool has, .slice A n c, .slice A2 n2 c2] 25)).heap.size = w.heap.size + 1) := by show _ = _; simp
  have HR := Lib.hid (hr.alloc hB (.cells #[.bool has, .slice A n c, .slice A2 n2 c2] 25))
  have HL := Lib.hid (hl.below ((below_one w (.cells #[.bool has, .slice A n c, .slice A2 n2 c2] 25)).mono hB))
  have HDN := Lib.hid hdn
  have HLN := Lib.hid hln
  have hn20 : n2 ≤ 20 := by omega
  have hn500 : n ≤ 500 := by omega
  have HC0 : Hid ((w.alloc (.cells #[.bool has, .slice A n c, .slice A2 n2 c2] 25)).cell? ⟨w.heap.size, 0, none⟩ = some (.bool has)) := by show _ = _; simp [World.cell?_alloc_new]
  have HC1 : Hid ((w.alloc (.cells #[.bool has, .slice A n c, .slice A2 n2 c2] 25)).cell? ⟨w.heap.size, 1, none⟩ = some (.slice A n c)) := by show _ = _; simp [World.cell?_alloc_new]
  clear hst0 hx hr hl hlen hok hs hdn hln hd500 hk20
  go_enter Try.func10, Try.ntmps10
  go_wp2
  generalize hwb : (w.alloc (.cells #[.bool has, .slice A n c, .slice A2 n2 c2] 25)) = wb at HST0 HWB HR HL HC0 HC1
  go_loopw [3, 5, 10] (fun s3 _ i wr => ∃ j : Nat, j ≤ n2 ∧ i = .int .i64 j ∧ SoFar wb wr s3 (linksBytes ((links.take j).map ml))) (fun _ _ i _ => n2 - (intOf i).toNat)
  case atStart => exact ⟨0, Nat.zero_le _, rfl, HST0.out⟩
  case round =>
    obtain ⟨j, hj, rfl, hso⟩ := hrel
    have hbw := hso.below
    have hws := hbw.size
    rw [HWB.out] at hws
    by_cases hlt : j < n2
    · obtain ⟨b, o, rfl, hbB, hc⟩ := (HL.out.below (hbw.mono (by rw [HWB.out]; omega))).2.2 (by omega)
      have hjl : j < links.length := by have := HLN.out; omega
      have hcj := hc j links[j] (List.getElem?_eq_getElem hjl)
      have hjm : links[j] ∈ links := List.getElem_mem hjl
      have hh1 := HSH.out links[j] hjm
      have hh2 := HSN.out links[j] hjm
      have hstep := links_step links j hjl
      have hle := HLEN.out j
      generalize links[j] = l at hcj hjm hstep hh1 hh2
      generalize linksBytes ((links.take j).map ml) = bs at hstep hso hle
      obtain ⟨c0, c1, c2, ⟨A3, c3, c3', hle3, hmx3, hr3⟩, c4, c5, hok⟩ := hcj
      have hf := fieldB_215 (linkBytes_len l hh1 hh2 hok)
      have HSW := Lib.hid (hso.later (below_one wr (.cells #[.bool l.hh, .bool l.hn, .bool l.hs, .slice A3 l.hash.length c3, .string l.name, .int .u64 l.size] 34)))
      have HSTEP := Lib.hid hstep
      have HR3 := Lib.hid (hr3.alloc (by omega) (.cells #[.bool l.hh, .bool l.hn, .bool l.hs, .slice A3 l.hash.length c3, .string l.name, .int .u64 l.size] 34))
      have HOK1 := Lib.hid hok
      have hsl : (linkBytes (ml l)).length ≤ 215 := linkBytes_len l hh1 hh2 hok
      have h1 := u8s_one (fieldB 18 (linkBytes (ml l)))
      have b1 : bs.length + (fieldB 18 (linkBytes (ml l))).length ≤ maxLen := by unfold maxLen; omega
      have b2 : (bs.length + (fieldB 18 (linkBytes (ml l))).length) * 1 ≤ 140737488355328 := by omega
      clear hc hr3 hso hstep hok hbw hf hle
      go_wp2_with (first | (go_at_call 19; refine (specLink_any l A3 c3 B _ HR3.out hle3 (by simp; omega) hh1 hh2 HOK1.out).mono ?_; rintro e w2 ⟨⟨v2, rfl, ho2⟩, hb2⟩; obtain ⟨A4, d4, rfl, _, _⟩ := own_shape ho2; have HRD2 := Lib.hid (Reads.of_own ho2); have HS2 := Lib.hid (HSW.out.later hb2); clear ho2 hb2) | (go_at_call 18; refine (pbField_any 2 _ _ _ _ (linkBytes (ml l)) _ (by decide) HRD2.out (Nat.le_refl _) (by omega)).mono ?_; rintro e w3 ⟨⟨v3, rfl, ho3⟩, hb3⟩; obtain ⟨A5, d5, rfl, _, _⟩ := own_shape ho3; have HRD := Lib.hid (HS2.out.ready hb3 ho3); clear ho3 hb3) | (at_builtin; refine wpList_append_any _ rfl (.tmp 14) (.tmp 17) 22 rfl _ 5 i0 (.int .u8 0) 1 1 Try.underlying22 hi hz0 hz1 hz2 rfl (by decide) _ _ _ rfl HRD.out.own w3.heap.size A5 _ d5 _ rfl HRD.out.rd h1 b1 b2 HRD.out.base ?_; rintro v4 w4 hown4 hg4 _ _; have HN := Lib.hid (HRD.out.next rfl hown4 hg4); clear hown4 hg4) | fail)
      go_roundw
      case rel => exact ⟨j + 1, by omega, by go_num, by rw [← HSTEP.out]; exact HN.out⟩
      case measure => simp [intOf]; omega
    · obtain rfl : j = n2 := by omega
      have hall : (linksBytes ((links.take j).map ml)) = linksBytes (links.map ml) := by rw [List.take_of_length_le (by have := HLN.out; omega)]
      have hle := HLEN.out j
      rw [hall] at hso hle
      have k0 : wr.cell? ⟨w.heap.size, 0, none⟩ = some (.bool has) := (hbw.cell (p := ⟨w.heap.size, 0, none⟩) (by rw [HWB.out]; exact Nat.lt_succ_self _)).trans HC0.out
      have k1 : wr.cell? ⟨w.heap.size, 1, none⟩ = some (.slice A n c) := (hbw.cell (p := ⟨w.heap.size, 1, none⟩) (by rw [HWB.out]; exact Nat.lt_succ_self _)).trans HC1.out
      have HSO := Lib.hid hso
      have hfb : Below w.heap.size w wr := below_then (by rw [← hwb]; exact below_one _ _) (by rw [HWB.out]; omega) hbw
      have HFB := Lib.hid hfb
      have HR2 := Lib.hid (HR.out.below (hbw.mono (by rw [HWB.out]; omega)))
      clear hso hall hbw hfb
      cases has with
      | false =>
        go_wp2
        go_ret
        have h := own_more HSO.out.own (base' := w.heap.size) (by rw [HWB.out]; omega)
        have e : nodeBytes (mn ⟨false, data, links⟩) = linksBytes (links.map ml) := by
          show _ ++ [] = _
          rw [List.append_nil]
          rfl
        rw [e]
        exact ⟨⟨_, rfl, h⟩, HFB.out⟩
      | true =>
        have h1 := u8s_one (fieldB 10 data)
        have hfl : (fieldB 10 data).length ≤ 520 := by
          have := uv_le data.length (by have := HDN.out; omega)
          have := HDN.out
          rw [fieldB_length]
          omega
        have b1 : (linksBytes (links.map ml)).length + (fieldB 10 data).length ≤ maxLen := by unfold maxLen; omega
        have b2 : ((linksBytes (links.map ml)).length + (fieldB 10 data).length) * 1 ≤ 140737488355328 := by omega
        clear hfl hle
        go_wp2_with (first | (go_at_call 18; refine (pbField_any 1 A n c B data _ (by decide) HR2.out (by omega) (by omega)).mono ?_; rintro e w2 ⟨⟨v2, rfl, ho2⟩, hb2⟩; obtain ⟨A4, d4, rfl, _, _⟩ := own_shape ho2; have HRD := Lib.hid (HSO.out.ready hb2 ho2); clear ho2 hb2) | (at_builtin; refine wpList_append_any _ rfl (.tmp 22) (.tmp 25) 22 rfl _ 5 i0 (.int .u8 0) 1 1 Try.underlying22 hi hz0 hz1 hz2 rfl (by decide) _ _ _ rfl HRD.out.own w2.heap.size A4 _ d4 _ rfl HRD.out.rd h1 b1 b2 HRD.out.base ?_; rintro v4 w4 hown4 hg4 _ _; have HN := Lib.hid (HRD.out.next rfl hown4 hg4); clear hown4 hg4) | fail)
        go_ret
        have h := own_more HN.out.own (base' := w.heap.size) (by rw [HWB.out]; omega)
        have e : nodeBytes (mn ⟨true, data, links⟩) = linksBytes (links.map ml) ++ fieldB 10 data := rfl
        rw [e]
        exact ⟨⟨_, rfl, h⟩, below_then (by rw [← hwb]; exact below_one _ _) (by rw [HWB.out]; omega) HN.out.below⟩
end Go.Proofs.Ythgbhaackihbjaa
