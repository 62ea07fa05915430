/- The law's 'loose', walked. -/
import Derived.Test.YthgbhaackihbjaaPbZ
namespace Go.Proofs.Ythgbhaackihbjaa
open Go.RowKit

/-- A message by value comes back, all that it holds may be read. -/
structure LooseMade (w : World) (x : PNd) (r : Ending) (w' : World) : Prop where
  ex : ∃ v, r = .returned v ∧ NodeArg w' w'.heap.size x v
  below : Below w.heap.size w w'
theorem cellsL_one (l : PLk) (A : Option Addr) (n c : Nat) : ∀ u ∈ cellsL l (.slice A n c), u.oneCell' = true := by
  intro u hu
  simp only [cellsL, List.mem_cons, List.not_mem_nil, or_false] at hu
  rcases hu with rfl | rfl | rfl | rfl | rfl | rfl <;> rfl
theorem LRow.start (w : World) (B : Nat) (b : Bool) (dv : Value) (ls : List PLk) (o : Obj) :
    LRow w (((w.alloc o).alloc (.cells #[.bool false, .slice none 0 0, .slice none 0 0] 25)).alloc (.cells #[.bool b, dv, .slice none 0 0] 25)) B b dv (.slice none 0 0) ls 0 [] := by
  refine ⟨World.ownsRow_nil _ _ _ _, LV.nil _ _, ?_, ?_, below_alloc (below_alloc (below_one w o) _) _, by simp⟩
  · have h := (Blk.new (w.alloc o) 25 #[.bool false, .slice none 0 0, .slice none 0 0]).alloc (.cells #[.bool b, dv, .slice none 0 0] 25)
    rw [World.size_alloc] at h
    exact h
  · have h := Blk.new ((w.alloc o).alloc (.cells #[.bool false, .slice none 0 0, .slice none 0 0] 25)) 25 #[.bool b, dv, .slice none 0 0]
    rw [World.size_alloc, World.size_alloc] at h
    exact h
set_option maxRecDepth 100000 in
set_option maxHeartbeats 4000000 in
theorem loose_any (x : PNd) (v : Value) (B : Nat) (w : World) (hx : NodeArg w B x v) (hB : B ≤ w.heap.size) (hk : x.links.length ≤ 20) (hd : x.data.length ≤ 500) (hsm : ∀ l ∈ x.links, l.hash.length ≤ 100) :
    Calls Try.prog 11 #[v] w (LooseMade w (loose x)) := by
  obtain ⟨A, n, c, A2, n2, c2, rfl, hnc, hcm, hr, hn2, hl⟩ := hx.ex
  obtain ⟨ipl, hil, hl0, hl1, hl2⟩ := info_parts infoPk
  have hdn := data_len hr
  obtain ⟨has, data, links⟩ := x
  simp only at hdn hd hk hsm hl hr
  have hln := hl.1
  have hn20 : n2 ≤ 20 := by omega
  have hn500 : n ≤ 500 := by omega
  have HR := Lib.hid hr
  have HL := Lib.hid hl
  have HLN := Lib.hid hln
  have HDN := Lib.hid hdn
  have HSM := Lib.hid hsm
  have HK := Lib.hid hk
  clear hx hr hl hln hdn hsm hk hd
  have fin : ∀ (b : Bool) (wr : World) (lv : Value) (vs : List Value), b = (has && decide (0 < data.length)) → LRow w wr B b (.slice A n c) lv links n2 vs → ∃ A' c', lv = .slice A' n2 c' ∧
      NodeArg (((wr.setCell ⟨w.heap.size + 1, 0, none⟩ (.bool b)).setCell ⟨w.heap.size + 1, 1, none⟩ (.slice A n c)).setCell ⟨w.heap.size + 1, 2, none⟩ lv) (((wr.setCell ⟨w.heap.size + 1, 0, none⟩ (.bool b)).setCell ⟨w.heap.size + 1, 1, none⟩ (.slice A n c)).setCell ⟨w.heap.size + 1, 2, none⟩ lv).heap.size (loose ⟨has, data, links⟩) (.agg #[.bool b, .slice A n c, lv]) ∧
      Below w.heap.size w (((wr.setCell ⟨w.heap.size + 1, 0, none⟩ (.bool b)).setCell ⟨w.heap.size + 1, 1, none⟩ (.slice A n c)).setCell ⟨w.heap.size + 1, 2, none⟩ lv) ∧
      Blk (((wr.setCell ⟨w.heap.size + 1, 0, none⟩ (.bool b)).setCell ⟨w.heap.size + 1, 1, none⟩ (.slice A n c)).setCell ⟨w.heap.size + 1, 2, none⟩ lv) (w.heap.size + 1) 25 #[.bool b, .slice A n c, lv] := by
    intro b wr lv vs hb h
    obtain ⟨A', c', rfl, hle, _⟩ := own_shape h.own
    have hlv := h.lv_
    rw [List.take_of_length_le (by have := HLN.out; omega)] at hlv
    have hsz := h.size
    have hbf : Below w.heap.size w (((wr.setCell ⟨w.heap.size + 1, 0, none⟩ (.bool b)).setCell ⟨w.heap.size + 1, 1, none⟩ (.slice A n c)).setCell ⟨w.heap.size + 1, 2, none⟩ (.slice A' n2 c')) := ((h.below.setCell (by simp) _).setCell (by simp) _).setCell (by simp) _
    have hof := ownsRow_setCell_below (ownsRow_setCell_below (ownsRow_setCell_below h.own (a := ⟨w.heap.size + 1, 0, none⟩) (by simp) (.bool b)) (a := ⟨w.heap.size + 1, 1, none⟩) (by simp) (.slice A n c)) (a := ⟨w.heap.size + 1, 2, none⟩) (by simp) (.slice A' n2 c')
    refine ⟨A', c', rfl, ⟨A, n, c, A', n2, c', ?_, hnc, hcm, (HR.out.below (hbf.mono hB)).more (by have := hbf.size; omega), hle, ?_⟩, hbf, ((h.res.set_ 0 _).set_ 1 _).set_ 2 _⟩
    · rw [hb]; rfl
    · exact hlv.links (by rw [List.length_map]; exact HLN.out) (by unfold maxLen; omega) hof hbf hB
  have FIN := Lib.hid fin
  clear fin
  cases has
  · go_enter Try.func11, Try.ntmps11
    go_wp2_with fail
    go_loopw [5, 20] (fun _ i wr => ∃ j : Nat, j ≤ n2 ∧ i = .int .i64 j ∧ ∃ lv vs, LRow w wr B false (.slice A n c) lv links j vs) (fun _ i _ => n2 - (intOf i).toNat)
    case atStart => exact ⟨0, Nat.zero_le _, rfl, .slice none 0 0, [], LRow.start w B false _ _ _⟩
    case round =>
      obtain ⟨j, hj, rfl, lv, vs, hrow⟩ := hrel
      have hsz := hrow.size
      by_cases hlt : j < n2
      · obtain ⟨b, o, rfl, hbB, hc⟩ := HL.out.2.2 (by omega)
        have hjl : j < links.length := by have := HLN.out; omega
        have hlj := List.getElem?_eq_getElem hjl
        have hcj := hc j links[j] hlj
        have hjs := HSM.out links[j] (List.getElem_mem hjl)
        generalize links[j] = l at hcj hlj hjs
        obtain ⟨lh, ln, ls_, lhash, lname, lsize⟩ := l
        obtain ⟨c0, c1, c2', ⟨A3, c3, c3', hle3, hmx3, hr3⟩, c4, c5, hok⟩ := hcj
        simp only at c0 c1 c2' c3' hle3 hr3 c4 c5 hok hjs
        have kc : ∀ t, wr.cell? ⟨b, t, none⟩ = w.cell? ⟨b, t, none⟩ := fun t => hrow.below.cell (p := ⟨b, t, none⟩) (by show b < _; omega)
        have d0 := (kc _).trans c0
        have d1 := (kc _).trans c1
        have d2 := (kc _).trans c2'
        have d3 := (kc _).trans c3'
        have d4 := (kc _).trans c4
        have d5 := (kc _).trans c5
        have k2 : wr.cell? ⟨w.heap.size + 1 + 1, 2, none⟩ = some lv := hrow.out.cell 2
        have hz2 : w.heap.size + 1 + 1 < wr.heap.size := by omega
        have NE : Hid (∀ _ : Nat, some (w.heap.size + 2) ≠ lv.ownBlock) := fun _ e => by have := own_base hrow.own _ e.symm; omega
        have b1 : j + 1 ≤ maxLen := by unfold maxLen; omega
        have b2 : (j + 1) * 56 ≤ 140737488355328 := by omega
        have HROW := Lib.hid hrow
        have HLJ := Lib.hid hlj
        have HR3 := Lib.hid hr3
        have HOK := Lib.hid hok
        clear hc hrow hlj hr3 hok kc c0 c1 c2' c3' c4 c5
        cases lh
        · have hcl : cellsL (looseL ⟨false, ln, ls_, lhash, lname, lsize⟩) (.slice A3 lhash.length c3) = [.bool false, .bool ln, .bool ls_, .slice A3 lhash.length c3, .string lname, .int .u64 lsize] := by simp [cellsL, looseL]
          have hnews : ∀ o1 : Obj, Reads ((wr.alloc o1).alloc (.cells #[.bool false, .bool ln, .bool ls_, .slice A3 lhash.length c3, .string lname, .int .u64 lsize] 34)) (wr.heap.size + 2) 6 (some ⟨wr.heap.size + 1, 0, none⟩) 1 (cellsL (looseL ⟨false, ln, ls_, lhash, lname, lsize⟩) (.slice A3 lhash.length c3)) := fun o1 => by rw [hcl]; exact Reads.regroup (reads_lit2 wr o1 34 [.bool false, .bool ln, .bool ls_, .slice A3 lhash.length c3, .string lname, .int .u64 lsize]) (by decide)
          have HNEWS := Lib.hid hnews
          clear hcl hnews
          go_wp2_with (first | (at_builtin; refine wpList_append_any _ rfl (.tmp 34) (.tmp 36) 23 rfl (w.heap.size + 3) 34 ipl _ 6 56 Try.underlying23 hil hl0 hl1 hl2 rfl (by decide) lv j vs rfl (own_below HROW.out.own (below_alloc (below_one wr _) _)) (wr.heap.size + 2) (some ⟨wr.heap.size + 1, 0, none⟩) 1 1 _ rfl (HNEWS.out _) (cellsL_one _ _ _ _) b1 b2 (by simp; omega) ?_; rintro v3 w3 hown3 hg3 _ _; obtain ⟨A6, c6, rfl, _, _⟩ := own_shape hown3; have hout3 := Blk.grown ((HROW.out.out.alloc _).alloc _) hg3 (NE.out 0); have g2 : w3.cell? ⟨w.heap.size + 1 + 1, 2, none⟩ = some lv := hout3.cell 2; have f2 : w3.frozen? ⟨w.heap.size + 1 + 1, 2, none⟩ = false := hout3.frozen 2; have HSTEP := Lib.hid (LRow.step HROW.out HLJ.out hle3 hmx3 HR3.out HOK.out hown3 hg3); clear hown3 hg3 hout3) | fail)
          go_roundw
          case rel => exact ⟨j + 1, by omega, by go_num, _, _, HSTEP.out⟩
          case measure => simp [intOf]; omega
        by_cases hp : 0 < lhash.length
        · have hpd : decide ((0 : Int) < (lhash.length : Int)) = true := decide_eq_true (by omega)
          have hcl : cellsL (looseL ⟨true, ln, ls_, lhash, lname, lsize⟩) (.slice A3 lhash.length c3) = [.bool true, .bool ln, .bool ls_, .slice A3 lhash.length c3, .string lname, .int .u64 lsize] := by simp [cellsL, looseL, hp]
          have hnews : ∀ o1 : Obj, Reads ((wr.alloc o1).alloc (.cells #[.bool true, .bool ln, .bool ls_, .slice A3 lhash.length c3, .string lname, .int .u64 lsize] 34)) (wr.heap.size + 2) 6 (some ⟨wr.heap.size + 1, 0, none⟩) 1 (cellsL (looseL ⟨true, ln, ls_, lhash, lname, lsize⟩) (.slice A3 lhash.length c3)) := fun o1 => by rw [hcl]; exact Reads.regroup (reads_lit2 wr o1 34 [.bool true, .bool ln, .bool ls_, .slice A3 lhash.length c3, .string lname, .int .u64 lsize]) (by decide)
          have HNEWS := Lib.hid hnews
          clear hcl hnews
          go_wp2_with (first | (at_builtin; refine wpList_append_any _ rfl (.tmp 34) (.tmp 36) 23 rfl (w.heap.size + 3) 34 ipl _ 6 56 Try.underlying23 hil hl0 hl1 hl2 rfl (by decide) lv j vs rfl (own_below HROW.out.own (below_alloc (below_one wr _) _)) (wr.heap.size + 2) (some ⟨wr.heap.size + 1, 0, none⟩) 1 1 _ rfl (HNEWS.out _) (cellsL_one _ _ _ _) b1 b2 (by simp; omega) ?_; rintro v3 w3 hown3 hg3 _ _; obtain ⟨A6, c6, rfl, _, _⟩ := own_shape hown3; have hout3 := Blk.grown ((HROW.out.out.alloc _).alloc _) hg3 (NE.out 0); have g2 : w3.cell? ⟨w.heap.size + 1 + 1, 2, none⟩ = some lv := hout3.cell 2; have f2 : w3.frozen? ⟨w.heap.size + 1 + 1, 2, none⟩ = false := hout3.frozen 2; have HSTEP := Lib.hid (LRow.step HROW.out HLJ.out hle3 hmx3 HR3.out HOK.out hown3 hg3); clear hown3 hg3 hout3) | fail)
          go_roundw
          case rel => exact ⟨j + 1, by omega, by go_num, _, _, HSTEP.out⟩
          case measure => simp [intOf]; omega
        · have hpd : decide ((0 : Int) < (lhash.length : Int)) = false := decide_eq_false (by omega)
          have hcl : cellsL (looseL ⟨true, ln, ls_, lhash, lname, lsize⟩) (.slice A3 lhash.length c3) = [.bool false, .bool ln, .bool ls_, .slice A3 lhash.length c3, .string lname, .int .u64 lsize] := by simp [cellsL, looseL, hp]
          have hnews : ∀ o1 : Obj, Reads ((wr.alloc o1).alloc (.cells #[.bool false, .bool ln, .bool ls_, .slice A3 lhash.length c3, .string lname, .int .u64 lsize] 34)) (wr.heap.size + 2) 6 (some ⟨wr.heap.size + 1, 0, none⟩) 1 (cellsL (looseL ⟨true, ln, ls_, lhash, lname, lsize⟩) (.slice A3 lhash.length c3)) := fun o1 => by rw [hcl]; exact Reads.regroup (reads_lit2 wr o1 34 [.bool false, .bool ln, .bool ls_, .slice A3 lhash.length c3, .string lname, .int .u64 lsize]) (by decide)
          have HNEWS := Lib.hid hnews
          clear hcl hnews
          go_wp2_with (first | (at_builtin; refine wpList_append_any _ rfl (.tmp 34) (.tmp 36) 23 rfl (w.heap.size + 3) 34 ipl _ 6 56 Try.underlying23 hil hl0 hl1 hl2 rfl (by decide) lv j vs rfl (own_below HROW.out.own (below_alloc (below_one wr _) _)) (wr.heap.size + 2) (some ⟨wr.heap.size + 1, 0, none⟩) 1 1 _ rfl (HNEWS.out _) (cellsL_one _ _ _ _) b1 b2 (by simp; omega) ?_; rintro v3 w3 hown3 hg3 _ _; obtain ⟨A6, c6, rfl, _, _⟩ := own_shape hown3; have hout3 := Blk.grown ((HROW.out.out.alloc _).alloc _) hg3 (NE.out 0); have g2 : w3.cell? ⟨w.heap.size + 1 + 1, 2, none⟩ = some lv := hout3.cell 2; have f2 : w3.frozen? ⟨w.heap.size + 1 + 1, 2, none⟩ = false := hout3.frozen 2; have HSTEP := Lib.hid (LRow.step HROW.out HLJ.out hle3 hmx3 HR3.out HOK.out hown3 hg3); clear hown3 hg3 hout3) | fail)
          go_roundw
          case rel => exact ⟨j + 1, by omega, by go_num, _, _, HSTEP.out⟩
          case measure => simp [intOf]; omega
      · obtain rfl : j = n2 := by omega
        obtain ⟨A', c', rfl, hna, hbf, hblk⟩ := FIN.out false wr lv vs rfl hrow
        have k0 := hrow.out.cell 0
        have k1 := hrow.out.cell 1
        have k2 := hrow.out.cell 2
        have r0 := hrow.res.cell 0
        have r1 := hrow.res.cell 1
        have r2 := hrow.res.cell 2
        have f0 := hrow.res.frozen 0
        have f1 := hrow.res.frozen 1
        have f2 := hrow.res.frozen 2
        have HNA := Lib.hid hna
        have HBF := Lib.hid hbf
        have HBLK := Lib.hid hblk
        clear hrow hna hbf hblk
        go_wp2
        (try simp only [Exit.inBlock, Exit.then])
        refine bodyPost_ret (results_cell_row rfl _ _ _ _ _ _ _ rfl HBLK.out Try.underlying25 rfl (by kernel_rfl)) rfl ?_
        exact ⟨⟨_, rfl, HNA.out⟩, HBF.out⟩
  by_cases h0 : 0 < n
  · have hd0 : decide ((0 : Int) < (n : Int)) = true := by simp; omega
    go_enter Try.func11, Try.ntmps11
    go_wp2_with fail
    go_loopw [5, 20] (fun _ i wr => ∃ j : Nat, j ≤ n2 ∧ i = .int .i64 j ∧ ∃ lv vs, LRow w wr B true (.slice A n c) lv links j vs) (fun _ i _ => n2 - (intOf i).toNat)
    case atStart => exact ⟨0, Nat.zero_le _, rfl, .slice none 0 0, [], LRow.start w B true _ _ _⟩
    case round =>
      obtain ⟨j, hj, rfl, lv, vs, hrow⟩ := hrel
      have hsz := hrow.size
      by_cases hlt : j < n2
      · obtain ⟨b, o, rfl, hbB, hc⟩ := HL.out.2.2 (by omega)
        have hjl : j < links.length := by have := HLN.out; omega
        have hlj := List.getElem?_eq_getElem hjl
        have hcj := hc j links[j] hlj
        have hjs := HSM.out links[j] (List.getElem_mem hjl)
        generalize links[j] = l at hcj hlj hjs
        obtain ⟨lh, ln, ls_, lhash, lname, lsize⟩ := l
        obtain ⟨c0, c1, c2', ⟨A3, c3, c3', hle3, hmx3, hr3⟩, c4, c5, hok⟩ := hcj
        simp only at c0 c1 c2' c3' hle3 hr3 c4 c5 hok hjs
        have kc : ∀ t, wr.cell? ⟨b, t, none⟩ = w.cell? ⟨b, t, none⟩ := fun t => hrow.below.cell (p := ⟨b, t, none⟩) (by show b < _; omega)
        have d0 := (kc _).trans c0
        have d1 := (kc _).trans c1
        have d2 := (kc _).trans c2'
        have d3 := (kc _).trans c3'
        have d4 := (kc _).trans c4
        have d5 := (kc _).trans c5
        have k2 : wr.cell? ⟨w.heap.size + 1 + 1, 2, none⟩ = some lv := hrow.out.cell 2
        have hz2 : w.heap.size + 1 + 1 < wr.heap.size := by omega
        have NE : Hid (∀ _ : Nat, some (w.heap.size + 2) ≠ lv.ownBlock) := fun _ e => by have := own_base hrow.own _ e.symm; omega
        have b1 : j + 1 ≤ maxLen := by unfold maxLen; omega
        have b2 : (j + 1) * 56 ≤ 140737488355328 := by omega
        have HROW := Lib.hid hrow
        have HLJ := Lib.hid hlj
        have HR3 := Lib.hid hr3
        have HOK := Lib.hid hok
        clear hc hrow hlj hr3 hok kc c0 c1 c2' c3' c4 c5
        cases lh
        · have hcl : cellsL (looseL ⟨false, ln, ls_, lhash, lname, lsize⟩) (.slice A3 lhash.length c3) = [.bool false, .bool ln, .bool ls_, .slice A3 lhash.length c3, .string lname, .int .u64 lsize] := by simp [cellsL, looseL]
          have hnews : ∀ o1 : Obj, Reads ((wr.alloc o1).alloc (.cells #[.bool false, .bool ln, .bool ls_, .slice A3 lhash.length c3, .string lname, .int .u64 lsize] 34)) (wr.heap.size + 2) 6 (some ⟨wr.heap.size + 1, 0, none⟩) 1 (cellsL (looseL ⟨false, ln, ls_, lhash, lname, lsize⟩) (.slice A3 lhash.length c3)) := fun o1 => by rw [hcl]; exact Reads.regroup (reads_lit2 wr o1 34 [.bool false, .bool ln, .bool ls_, .slice A3 lhash.length c3, .string lname, .int .u64 lsize]) (by decide)
          have HNEWS := Lib.hid hnews
          clear hcl hnews
          go_wp2_with (first | (at_builtin; refine wpList_append_any _ rfl (.tmp 34) (.tmp 36) 23 rfl (w.heap.size + 3) 34 ipl _ 6 56 Try.underlying23 hil hl0 hl1 hl2 rfl (by decide) lv j vs rfl (own_below HROW.out.own (below_alloc (below_one wr _) _)) (wr.heap.size + 2) (some ⟨wr.heap.size + 1, 0, none⟩) 1 1 _ rfl (HNEWS.out _) (cellsL_one _ _ _ _) b1 b2 (by simp; omega) ?_; rintro v3 w3 hown3 hg3 _ _; obtain ⟨A6, c6, rfl, _, _⟩ := own_shape hown3; have hout3 := Blk.grown ((HROW.out.out.alloc _).alloc _) hg3 (NE.out 0); have g2 : w3.cell? ⟨w.heap.size + 1 + 1, 2, none⟩ = some lv := hout3.cell 2; have f2 : w3.frozen? ⟨w.heap.size + 1 + 1, 2, none⟩ = false := hout3.frozen 2; have HSTEP := Lib.hid (LRow.step HROW.out HLJ.out hle3 hmx3 HR3.out HOK.out hown3 hg3); clear hown3 hg3 hout3) | fail)
          go_roundw
          case rel => exact ⟨j + 1, by omega, by go_num, _, _, HSTEP.out⟩
          case measure => simp [intOf]; omega
        by_cases hp : 0 < lhash.length
        · have hpd : decide ((0 : Int) < (lhash.length : Int)) = true := decide_eq_true (by omega)
          have hcl : cellsL (looseL ⟨true, ln, ls_, lhash, lname, lsize⟩) (.slice A3 lhash.length c3) = [.bool true, .bool ln, .bool ls_, .slice A3 lhash.length c3, .string lname, .int .u64 lsize] := by simp [cellsL, looseL, hp]
          have hnews : ∀ o1 : Obj, Reads ((wr.alloc o1).alloc (.cells #[.bool true, .bool ln, .bool ls_, .slice A3 lhash.length c3, .string lname, .int .u64 lsize] 34)) (wr.heap.size + 2) 6 (some ⟨wr.heap.size + 1, 0, none⟩) 1 (cellsL (looseL ⟨true, ln, ls_, lhash, lname, lsize⟩) (.slice A3 lhash.length c3)) := fun o1 => by rw [hcl]; exact Reads.regroup (reads_lit2 wr o1 34 [.bool true, .bool ln, .bool ls_, .slice A3 lhash.length c3, .string lname, .int .u64 lsize]) (by decide)
          have HNEWS := Lib.hid hnews
          clear hcl hnews
          go_wp2_with (first | (at_builtin; refine wpList_append_any _ rfl (.tmp 34) (.tmp 36) 23 rfl (w.heap.size + 3) 34 ipl _ 6 56 Try.underlying23 hil hl0 hl1 hl2 rfl (by decide) lv j vs rfl (own_below HROW.out.own (below_alloc (below_one wr _) _)) (wr.heap.size + 2) (some ⟨wr.heap.size + 1, 0, none⟩) 1 1 _ rfl (HNEWS.out _) (cellsL_one _ _ _ _) b1 b2 (by simp; omega) ?_; rintro v3 w3 hown3 hg3 _ _; obtain ⟨A6, c6, rfl, _, _⟩ := own_shape hown3; have hout3 := Blk.grown ((HROW.out.out.alloc _).alloc _) hg3 (NE.out 0); have g2 : w3.cell? ⟨w.heap.size + 1 + 1, 2, none⟩ = some lv := hout3.cell 2; have f2 : w3.frozen? ⟨w.heap.size + 1 + 1, 2, none⟩ = false := hout3.frozen 2; have HSTEP := Lib.hid (LRow.step HROW.out HLJ.out hle3 hmx3 HR3.out HOK.out hown3 hg3); clear hown3 hg3 hout3) | fail)
          go_roundw
          case rel => exact ⟨j + 1, by omega, by go_num, _, _, HSTEP.out⟩
          case measure => simp [intOf]; omega
        · have hpd : decide ((0 : Int) < (lhash.length : Int)) = false := decide_eq_false (by omega)
          have hcl : cellsL (looseL ⟨true, ln, ls_, lhash, lname, lsize⟩) (.slice A3 lhash.length c3) = [.bool false, .bool ln, .bool ls_, .slice A3 lhash.length c3, .string lname, .int .u64 lsize] := by simp [cellsL, looseL, hp]
          have hnews : ∀ o1 : Obj, Reads ((wr.alloc o1).alloc (.cells #[.bool false, .bool ln, .bool ls_, .slice A3 lhash.length c3, .string lname, .int .u64 lsize] 34)) (wr.heap.size + 2) 6 (some ⟨wr.heap.size + 1, 0, none⟩) 1 (cellsL (looseL ⟨true, ln, ls_, lhash, lname, lsize⟩) (.slice A3 lhash.length c3)) := fun o1 => by rw [hcl]; exact Reads.regroup (reads_lit2 wr o1 34 [.bool false, .bool ln, .bool ls_, .slice A3 lhash.length c3, .string lname, .int .u64 lsize]) (by decide)
          have HNEWS := Lib.hid hnews
          clear hcl hnews
          go_wp2_with (first | (at_builtin; refine wpList_append_any _ rfl (.tmp 34) (.tmp 36) 23 rfl (w.heap.size + 3) 34 ipl _ 6 56 Try.underlying23 hil hl0 hl1 hl2 rfl (by decide) lv j vs rfl (own_below HROW.out.own (below_alloc (below_one wr _) _)) (wr.heap.size + 2) (some ⟨wr.heap.size + 1, 0, none⟩) 1 1 _ rfl (HNEWS.out _) (cellsL_one _ _ _ _) b1 b2 (by simp; omega) ?_; rintro v3 w3 hown3 hg3 _ _; obtain ⟨A6, c6, rfl, _, _⟩ := own_shape hown3; have hout3 := Blk.grown ((HROW.out.out.alloc _).alloc _) hg3 (NE.out 0); have g2 : w3.cell? ⟨w.heap.size + 1 + 1, 2, none⟩ = some lv := hout3.cell 2; have f2 : w3.frozen? ⟨w.heap.size + 1 + 1, 2, none⟩ = false := hout3.frozen 2; have HSTEP := Lib.hid (LRow.step HROW.out HLJ.out hle3 hmx3 HR3.out HOK.out hown3 hg3); clear hown3 hg3 hout3) | fail)
          go_roundw
          case rel => exact ⟨j + 1, by omega, by go_num, _, _, HSTEP.out⟩
          case measure => simp [intOf]; omega
      · obtain rfl : j = n2 := by omega
        obtain ⟨A', c', rfl, hna, hbf, hblk⟩ := FIN.out true wr lv vs (by rw [HDN.out]; simp [h0]) hrow
        have k0 := hrow.out.cell 0
        have k1 := hrow.out.cell 1
        have k2 := hrow.out.cell 2
        have r0 := hrow.res.cell 0
        have r1 := hrow.res.cell 1
        have r2 := hrow.res.cell 2
        have f0 := hrow.res.frozen 0
        have f1 := hrow.res.frozen 1
        have f2 := hrow.res.frozen 2
        have HNA := Lib.hid hna
        have HBF := Lib.hid hbf
        have HBLK := Lib.hid hblk
        clear hrow hna hbf hblk
        go_wp2
        (try simp only [Exit.inBlock, Exit.then])
        refine bodyPost_ret (results_cell_row rfl _ _ _ _ _ _ _ rfl HBLK.out Try.underlying25 rfl (by kernel_rfl)) rfl ?_
        exact ⟨⟨_, rfl, HNA.out⟩, HBF.out⟩
  · have hd0 : decide ((0 : Int) < (n : Int)) = false := by simp; omega
    go_enter Try.func11, Try.ntmps11
    go_wp2_with fail
    go_loopw [5, 20] (fun _ i wr => ∃ j : Nat, j ≤ n2 ∧ i = .int .i64 j ∧ ∃ lv vs, LRow w wr B false (.slice A n c) lv links j vs) (fun _ i _ => n2 - (intOf i).toNat)
    case atStart => exact ⟨0, Nat.zero_le _, rfl, .slice none 0 0, [], LRow.start w B false _ _ _⟩
    case round =>
      obtain ⟨j, hj, rfl, lv, vs, hrow⟩ := hrel
      have hsz := hrow.size
      by_cases hlt : j < n2
      · obtain ⟨b, o, rfl, hbB, hc⟩ := HL.out.2.2 (by omega)
        have hjl : j < links.length := by have := HLN.out; omega
        have hlj := List.getElem?_eq_getElem hjl
        have hcj := hc j links[j] hlj
        have hjs := HSM.out links[j] (List.getElem_mem hjl)
        generalize links[j] = l at hcj hlj hjs
        obtain ⟨lh, ln, ls_, lhash, lname, lsize⟩ := l
        obtain ⟨c0, c1, c2', ⟨A3, c3, c3', hle3, hmx3, hr3⟩, c4, c5, hok⟩ := hcj
        simp only at c0 c1 c2' c3' hle3 hr3 c4 c5 hok hjs
        have kc : ∀ t, wr.cell? ⟨b, t, none⟩ = w.cell? ⟨b, t, none⟩ := fun t => hrow.below.cell (p := ⟨b, t, none⟩) (by show b < _; omega)
        have d0 := (kc _).trans c0
        have d1 := (kc _).trans c1
        have d2 := (kc _).trans c2'
        have d3 := (kc _).trans c3'
        have d4 := (kc _).trans c4
        have d5 := (kc _).trans c5
        have k2 : wr.cell? ⟨w.heap.size + 1 + 1, 2, none⟩ = some lv := hrow.out.cell 2
        have hz2 : w.heap.size + 1 + 1 < wr.heap.size := by omega
        have NE : Hid (∀ _ : Nat, some (w.heap.size + 2) ≠ lv.ownBlock) := fun _ e => by have := own_base hrow.own _ e.symm; omega
        have b1 : j + 1 ≤ maxLen := by unfold maxLen; omega
        have b2 : (j + 1) * 56 ≤ 140737488355328 := by omega
        have HROW := Lib.hid hrow
        have HLJ := Lib.hid hlj
        have HR3 := Lib.hid hr3
        have HOK := Lib.hid hok
        clear hc hrow hlj hr3 hok kc c0 c1 c2' c3' c4 c5
        cases lh
        · have hcl : cellsL (looseL ⟨false, ln, ls_, lhash, lname, lsize⟩) (.slice A3 lhash.length c3) = [.bool false, .bool ln, .bool ls_, .slice A3 lhash.length c3, .string lname, .int .u64 lsize] := by simp [cellsL, looseL]
          have hnews : ∀ o1 : Obj, Reads ((wr.alloc o1).alloc (.cells #[.bool false, .bool ln, .bool ls_, .slice A3 lhash.length c3, .string lname, .int .u64 lsize] 34)) (wr.heap.size + 2) 6 (some ⟨wr.heap.size + 1, 0, none⟩) 1 (cellsL (looseL ⟨false, ln, ls_, lhash, lname, lsize⟩) (.slice A3 lhash.length c3)) := fun o1 => by rw [hcl]; exact Reads.regroup (reads_lit2 wr o1 34 [.bool false, .bool ln, .bool ls_, .slice A3 lhash.length c3, .string lname, .int .u64 lsize]) (by decide)
          have HNEWS := Lib.hid hnews
          clear hcl hnews
          go_wp2_with (first | (at_builtin; refine wpList_append_any _ rfl (.tmp 34) (.tmp 36) 23 rfl (w.heap.size + 3) 34 ipl _ 6 56 Try.underlying23 hil hl0 hl1 hl2 rfl (by decide) lv j vs rfl (own_below HROW.out.own (below_alloc (below_one wr _) _)) (wr.heap.size + 2) (some ⟨wr.heap.size + 1, 0, none⟩) 1 1 _ rfl (HNEWS.out _) (cellsL_one _ _ _ _) b1 b2 (by simp; omega) ?_; rintro v3 w3 hown3 hg3 _ _; obtain ⟨A6, c6, rfl, _, _⟩ := own_shape hown3; have hout3 := Blk.grown ((HROW.out.out.alloc _).alloc _) hg3 (NE.out 0); have g2 : w3.cell? ⟨w.heap.size + 1 + 1, 2, none⟩ = some lv := hout3.cell 2; have f2 : w3.frozen? ⟨w.heap.size + 1 + 1, 2, none⟩ = false := hout3.frozen 2; have HSTEP := Lib.hid (LRow.step HROW.out HLJ.out hle3 hmx3 HR3.out HOK.out hown3 hg3); clear hown3 hg3 hout3) | fail)
          go_roundw
          case rel => exact ⟨j + 1, by omega, by go_num, _, _, HSTEP.out⟩
          case measure => simp [intOf]; omega
        by_cases hp : 0 < lhash.length
        · have hpd : decide ((0 : Int) < (lhash.length : Int)) = true := decide_eq_true (by omega)
          have hcl : cellsL (looseL ⟨true, ln, ls_, lhash, lname, lsize⟩) (.slice A3 lhash.length c3) = [.bool true, .bool ln, .bool ls_, .slice A3 lhash.length c3, .string lname, .int .u64 lsize] := by simp [cellsL, looseL, hp]
          have hnews : ∀ o1 : Obj, Reads ((wr.alloc o1).alloc (.cells #[.bool true, .bool ln, .bool ls_, .slice A3 lhash.length c3, .string lname, .int .u64 lsize] 34)) (wr.heap.size + 2) 6 (some ⟨wr.heap.size + 1, 0, none⟩) 1 (cellsL (looseL ⟨true, ln, ls_, lhash, lname, lsize⟩) (.slice A3 lhash.length c3)) := fun o1 => by rw [hcl]; exact Reads.regroup (reads_lit2 wr o1 34 [.bool true, .bool ln, .bool ls_, .slice A3 lhash.length c3, .string lname, .int .u64 lsize]) (by decide)
          have HNEWS := Lib.hid hnews
          clear hcl hnews
          go_wp2_with (first | (at_builtin; refine wpList_append_any _ rfl (.tmp 34) (.tmp 36) 23 rfl (w.heap.size + 3) 34 ipl _ 6 56 Try.underlying23 hil hl0 hl1 hl2 rfl (by decide) lv j vs rfl (own_below HROW.out.own (below_alloc (below_one wr _) _)) (wr.heap.size + 2) (some ⟨wr.heap.size + 1, 0, none⟩) 1 1 _ rfl (HNEWS.out _) (cellsL_one _ _ _ _) b1 b2 (by simp; omega) ?_; rintro v3 w3 hown3 hg3 _ _; obtain ⟨A6, c6, rfl, _, _⟩ := own_shape hown3; have hout3 := Blk.grown ((HROW.out.out.alloc _).alloc _) hg3 (NE.out 0); have g2 : w3.cell? ⟨w.heap.size + 1 + 1, 2, none⟩ = some lv := hout3.cell 2; have f2 : w3.frozen? ⟨w.heap.size + 1 + 1, 2, none⟩ = false := hout3.frozen 2; have HSTEP := Lib.hid (LRow.step HROW.out HLJ.out hle3 hmx3 HR3.out HOK.out hown3 hg3); clear hown3 hg3 hout3) | fail)
          go_roundw
          case rel => exact ⟨j + 1, by omega, by go_num, _, _, HSTEP.out⟩
          case measure => simp [intOf]; omega
        · have hpd : decide ((0 : Int) < (lhash.length : Int)) = false := decide_eq_false (by omega)
          have hcl : cellsL (looseL ⟨true, ln, ls_, lhash, lname, lsize⟩) (.slice A3 lhash.length c3) = [.bool false, .bool ln, .bool ls_, .slice A3 lhash.length c3, .string lname, .int .u64 lsize] := by simp [cellsL, looseL, hp]
          have hnews : ∀ o1 : Obj, Reads ((wr.alloc o1).alloc (.cells #[.bool false, .bool ln, .bool ls_, .slice A3 lhash.length c3, .string lname, .int .u64 lsize] 34)) (wr.heap.size + 2) 6 (some ⟨wr.heap.size + 1, 0, none⟩) 1 (cellsL (looseL ⟨true, ln, ls_, lhash, lname, lsize⟩) (.slice A3 lhash.length c3)) := fun o1 => by rw [hcl]; exact Reads.regroup (reads_lit2 wr o1 34 [.bool false, .bool ln, .bool ls_, .slice A3 lhash.length c3, .string lname, .int .u64 lsize]) (by decide)
          have HNEWS := Lib.hid hnews
          clear hcl hnews
          go_wp2_with (first | (at_builtin; refine wpList_append_any _ rfl (.tmp 34) (.tmp 36) 23 rfl (w.heap.size + 3) 34 ipl _ 6 56 Try.underlying23 hil hl0 hl1 hl2 rfl (by decide) lv j vs rfl (own_below HROW.out.own (below_alloc (below_one wr _) _)) (wr.heap.size + 2) (some ⟨wr.heap.size + 1, 0, none⟩) 1 1 _ rfl (HNEWS.out _) (cellsL_one _ _ _ _) b1 b2 (by simp; omega) ?_; rintro v3 w3 hown3 hg3 _ _; obtain ⟨A6, c6, rfl, _, _⟩ := own_shape hown3; have hout3 := Blk.grown ((HROW.out.out.alloc _).alloc _) hg3 (NE.out 0); have g2 : w3.cell? ⟨w.heap.size + 1 + 1, 2, none⟩ = some lv := hout3.cell 2; have f2 : w3.frozen? ⟨w.heap.size + 1 + 1, 2, none⟩ = false := hout3.frozen 2; have HSTEP := Lib.hid (LRow.step HROW.out HLJ.out hle3 hmx3 HR3.out HOK.out hown3 hg3); clear hown3 hg3 hout3) | fail)
          go_roundw
          case rel => exact ⟨j + 1, by omega, by go_num, _, _, HSTEP.out⟩
          case measure => simp [intOf]; omega
      · obtain rfl : j = n2 := by omega
        obtain ⟨A', c', rfl, hna, hbf, hblk⟩ := FIN.out false wr lv vs (by rw [HDN.out]; simp [h0]) hrow
        have k0 := hrow.out.cell 0
        have k1 := hrow.out.cell 1
        have k2 := hrow.out.cell 2
        have r0 := hrow.res.cell 0
        have r1 := hrow.res.cell 1
        have r2 := hrow.res.cell 2
        have f0 := hrow.res.frozen 0
        have f1 := hrow.res.frozen 1
        have f2 := hrow.res.frozen 2
        have HNA := Lib.hid hna
        have HBF := Lib.hid hbf
        have HBLK := Lib.hid hblk
        clear hrow hna hbf hblk
        go_wp2
        (try simp only [Exit.inBlock, Exit.then])
        refine bodyPost_ret (results_cell_row rfl _ _ _ _ _ _ _ rfl HBLK.out Try.underlying25 rfl (by kernel_rfl)) rfl ?_
        exact ⟨⟨_, rfl, HNA.out⟩, HBF.out⟩
end Go.Proofs.Ythgbhaackihbjaa
