/- The reference's PbSame: whether two messages tell the same. -/
import Derived.Test.YthgbhaackihbjaaDoorPbP
namespace Go.Proofs.YthgbhaackihbjaaDoor
open Go.RowKit

def sameLinks (a b : List PLk) : Bool := (a.zip b).all fun p => sameLink p.1 p.2
def sameNode (a b : PNd) : Bool := (a.has == b.has) && (!a.has || (a.data == b.data)) && decide (a.links.length = b.links.length) && sameLinks a.links b.links
theorem sameLinks_step (a b : List PLk) (j : Nat) (h1 : j < a.length) (h2 : j < b.length) : sameLinks (a.take (j + 1)) (b.take (j + 1)) = (sameLinks (a.take j) (b.take j) && sameLink a[j] b[j]) := by
  unfold sameLinks
  rw [take_snoc _ _ h1, take_snoc _ _ h2, List.zip_append (by simp; omega), List.all_append]
  simp
theorem sameLinks_false {a b : List PLk} {j : Nat} (h1 : j < a.length) (h2 : j < b.length) (h : sameLink a[j] b[j] = false) : sameLinks a b = false := by
  unfold sameLinks
  rw [List.all_eq_false]
  refine ⟨(a[j], b[j]), ?_, by simp [h]⟩
  refine List.mem_iff_getElem.mpr ⟨j, by simp; omega, by simp⟩
theorem node_cells2 {w w2 : World} {a b c a' b' c' : Value} {t t' : TypeId} (hb : Below (w.heap.size + 2) ((w.alloc (.cells #[a, b, c] t)).alloc (.cells #[a', b', c'] t')) w2) :
    w2.cell? ⟨w.heap.size, 2, none⟩ = some c ∧ w2.cell? ⟨w.heap.size + 1, 2, none⟩ = some c' :=
  ⟨(hb.cell (p := ⟨w.heap.size, 2, none⟩) (by simp)).trans (by simp), (hb.cell (p := ⟨w.heap.size + 1, 2, none⟩) (by simp)).trans (by simp)⟩
theorem below_two (w : World) (a b : Obj) : Below w.heap.size w ((w.alloc a).alloc b) := below_alloc (below_one w a) b
set_option maxRecDepth 100000 in
set_option maxHeartbeats 4000000 in
theorem same_any (x y : PNd) (v v' : Value) (B : Nat) (w : World) (hx : NodeArg w B x v) (hy : NodeArg w B y v') (hB : B ≤ w.heap.size) (hk : x.links.length ≤ 1000000) :
    Calls Tryd.prog 9 #[v, v'] w (Ans w (sameNode x y)) := by
  obtain ⟨A, n, c, A2, n2, c2, rfl, hnc, hcm, hr, hn2, hl⟩ := hx.ex
  obtain ⟨A', n', c', A2', n2', c2', rfl, hnc', hcm', hr', hn2', hl'⟩ := hy.ex
  obtain ⟨has, data, links⟩ := x
  obtain ⟨has', data', links'⟩ := y
  simp only at hr hl hr' hl' hk
  simp only [sameNode]
  have hln := hl.1
  have hln' := hl'.1
  have hbt := below_two w (.cells #[.bool has, .slice A n c, .slice A2 n2 c2] 28) (.cells #[.bool has', .slice A' n' c', .slice A2' n2' c2'] 28)
  have HR := Lib.hid (hr.below (hbt.mono hB))
  have HR' := Lib.hid (hr'.below (hbt.mono hB))
  have HL := Lib.hid (hl.below (hbt.mono hB))
  have HL' := Lib.hid (hl'.below (hbt.mono hB))
  have HBT := Lib.hid hbt
  have HLN := Lib.hid hln
  have HLN' := Lib.hid hln'
  have hn20 : n2 ≤ 1000000 := by omega
  clear hx hy hr hr' hl hl' hbt
  rw [hln, hln']
  clear hln hln'
  go_enter Tryd.func9, Tryd.ntmps9
  cases q1 : has == has'
  · go_wp2
    go_ret
    exact ⟨by simp, HBT.out⟩
  rcases Bool.eq_false_or_eq_true ((n2 : Int) != (n2' : Int)) with q3 | q3
  · have hne : ¬ n2 = n2' := by simp at q3; omega
    have HNE : Hid (decide (n2 = n2') = false) := by show _ = _; simp [hne]
    cases has
    · go_wp2
      go_ret
      exact ⟨by simp [HNE.out], HBT.out⟩
    · cases q2 : data == data'
      · go_wp2_with (first | (go_at_call 16; refine (sameBytes_any _ _ _ _ _ _ B B data data' _ HR.out HR'.out).mono ?_; rw [q2]; rintro e w3 ⟨rfl, rfl⟩) | fail)
        go_ret
        exact ⟨by simp, HBT.out⟩
      · go_wp2_with (first | (go_at_call 16; refine (sameBytes_any _ _ _ _ _ _ B B data data' _ HR.out HR'.out).mono ?_; rw [q2]; rintro e w3 ⟨rfl, rfl⟩) | fail)
        go_ret
        exact ⟨by simp [HNE.out], HBT.out⟩
  obtain rfl : n2 = n2' := by simp at q3; omega
  cases q2 : (!has || (data == data'))
  · obtain ⟨rfl, q4⟩ : has = true ∧ (data == data') = false := by cases has <;> simp_all
    go_wp2_with (first | (go_at_call 16; refine (sameBytes_any _ _ _ _ _ _ B B data data' _ HR.out HR'.out).mono ?_; rw [q4]; rintro e w3 ⟨rfl, rfl⟩) | fail)
    go_ret
    exact ⟨by simp, HBT.out⟩
  cases has
  all_goals
    (try have q4 : (data == data') = true := by simpa using q2)
    go_wp2_with (first | (go_at_call 16; refine (sameBytes_any _ _ _ _ _ _ B B data data' _ HR.out HR'.out).mono ?_; rw [q4]; rintro e w3 ⟨rfl, rfl⟩) | fail)
    go_loopw [5, 35] (fun _ i wr => ∃ j : Nat, j ≤ n2 ∧ i = .int .i64 j ∧ Hid (sameLinks (links.take j) (links'.take j) = true) ∧ Below (w.heap.size + 2) ((w.alloc (.cells #[.bool _, .slice A n c, .slice A2 n2 c2] 28)).alloc (.cells #[.bool has', .slice A' n' c', .slice A2' n2 c2'] 28)) wr) (fun _ i _ => n2 - (intOf i).toNat)
    case atStart => exact ⟨0, Nat.zero_le _, rfl, rfl, Below.refl _ _⟩
    case round =>
      obtain ⟨j, hj, rfl, HS, hbw⟩ := hrel
      obtain ⟨k1, k2⟩ := node_cells2 hbw
      have hsz := hbw.size
      have hs2 : w.heap.size + 2 ≤ wr.heap.size := by simp at hsz; omega
      have hfr : Below w.heap.size w wr := below_then HBT.out (by simp; omega) (hbw.mono (by simp))
      have HFR := Lib.hid hfr
      clear hfr
      by_cases hlt : j < n2
      · obtain ⟨b, o, rfl, hbB, hc⟩ := (HL.out.below (hbw.mono (by omega))).2.2 (by omega)
        obtain ⟨b', o', rfl, hbB', hc'⟩ := (HL'.out.below (hbw.mono (by omega))).2.2 (by omega)
        have hjl : j < links.length := by have := HLN.out; omega
        have hjl' : j < links'.length := by have := HLN'.out; omega
        have hcj := hc j links[j] (List.getElem?_eq_getElem hjl)
        have hcj' := hc' j links'[j] (List.getElem?_eq_getElem hjl')
        have hstep := sameLinks_step links links' j hjl hjl'
        have hfls := sameLinks_false hjl hjl'
        generalize links[j] = l at hcj hstep hfls
        generalize links'[j] = l' at hcj' hstep hfls
        obtain ⟨c0, c1, c2, ⟨A3, c3, c3', hle3, hmx3, hr3⟩, c4, c5, hok⟩ := hcj
        obtain ⟨d0, d1, d2, ⟨A3', e3, d3', hle3', hmx3', hr3'⟩, d4, d5, hok'⟩ := hcj'
        have HSTEP := Lib.hid hstep
        have HFLS := Lib.hid hfls
        have HR3 := Lib.hid hr3
        have HR3' := Lib.hid hr3'
        have HBW := Lib.hid hbw
        have hBr : B ≤ wr.heap.size := by simp at hsz; omega
        clear hc hc' hstep hfls hr3 hr3' hle3 hle3' hok hok' hbw
        have hcall := sameLink_any l l' A3 A3' c3 e3 B wr.drew HR3.out.drew HR3'.out.drew hBr
        cases hle : sameLink l l'
        · have hf := HFLS.out hle
          rw [hle] at hcall
          have HF := Lib.hid hf
          have HCALL := Lib.hid hcall
          clear hf hcall
          go_wp2_with fail
          go_region_law (first | (go_simp; go_at_call 21; refine HCALL.out.mono ?_; rintro e w3 ⟨rfl, hb3⟩; have hb4 : Below wr.heap.size wr w3 := ⟨hb3.os, hb3.tape, hb3.output, hb3.size, hb3.block⟩; have HB3 := Lib.hid hb4; clear hb3 hb4) | fail)
          all_goals
            go_wp2
            go_ret
            exact ⟨by simp [HF.out], below_then HFR.out (by omega) HB3.out⟩
        · have hst := HSTEP.out
          rw [HS.out, hle] at hst
          rw [hle] at hcall
          have HST := Lib.hid hst
          have HCALL := Lib.hid hcall
          clear hst hcall
          go_wp2_with fail
          go_region_law (first | (go_simp; go_at_call 21; refine HCALL.out.mono ?_; rintro e w3 ⟨rfl, hb3⟩; have hb4 : Below wr.heap.size wr w3 := ⟨hb3.os, hb3.tape, hb3.output, hb3.size, hb3.block⟩; have HB3 := Lib.hid hb4; clear hb3 hb4) | fail)
          all_goals
            go_wp2
            go_roundw
          all_goals first | exact ⟨j + 1, by omega, by go_num, HST.out, below_then HBW.out (by omega) HB3.out⟩ | (simp [intOf]; omega)
      · obtain rfl : j = n2 := by omega
        have hs := HS.out
        rw [List.take_of_length_le (by have := HLN.out; omega), List.take_of_length_le (by have := HLN'.out; omega)] at hs
        have HS2 := Lib.hid hs
        clear hs hbw
        go_wp2
        go_ret
        exact ⟨by simp [HS2.out], HFR.out⟩
end Go.Proofs.YthgbhaackihbjaaDoor
