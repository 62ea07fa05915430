/- The closure 'taken' of spec.Merged. -/
import Derived.Test.YtijbdinemjiepaaDoorDfU
namespace Go.Proofs.YtijbdinemjiepaaDoor
open Go.RowKit

theorem same_bytes {s s' : ByteArray} (h : (s.toList == s'.toList) = true) : s = s' := by
  rw [ByteArray.toList_eq, ByteArray.toList_eq] at h
  exact ByteArray.ext (Array.toList_inj.mp (eq_of_beq h))
theorem bytes_beq (s t : ByteArray) : (s.toList == t.toList) = decide (s = t) := by
  rw [Bool.eq_iff_iff, decide_eq_true_iff]
  exact ⟨same_bytes, fun h => by rw [h]; simp⟩
theorem flatP_at : ∀ (l : List (Dif × Dif)) (j : Nat), (flatP l)[2 * j]? = l[j]?.map (·.1) ∧ (flatP l)[2 * j + 1]? = l[j]?.map (·.2)
  | [], _ => by simp [flatP]
  | q :: t, 0 => ⟨rfl, rfl⟩
  | q :: t, j + 1 => by
    have h := flatP_at t j
    have e : flatP (q :: t) = [q.1, q.2] ++ flatP t := rfl
    rw [e, List.getElem?_append_right (by simp; omega), List.getElem?_append_right (by simp; omega)]
    have s1 : 2 * (j + 1) - 2 = 2 * j := by omega
    have s2 : 2 * (j + 1) + 1 - 2 = 2 * j + 1 := by omega
    simp only [List.length_cons, List.length_nil, s1, s2, List.getElem?_cons_succ]
    exact h
set_option maxRecDepth 100000 in
set_option maxHeartbeats 4000000 in
theorem pathIs_any (ty ty' : Int) (p q P : ByteArray) (x1 x2 y1 y2 : Option Addr) (a1 a2 a3 a4 a5 a6 a7 a8 b : Nat) (w : World) (hb : w.cell? ⟨b, 0, none⟩ = some (.string P)) :
    Calls Tryd.prog 35 #[.agg #[.int .i64 ty, .string p, .slice x1 a1 a2, .slice x2 a3 a4, .int .i64 ty', .string q, .slice y1 a5 a6, .slice y2 a7 a8], .pointer (some ⟨b, 0, none⟩)] w fun e w' => e = .returned (.bool (decide (p = P))) ∧ Below w.heap.size w w' := by
  have hb2 := cell_alloc hb (.cells #[.int .i64 ty, .string p, .slice x1 a1 a2, .slice x2 a3 a4, .int .i64 ty', .string q, .slice y1 a5 a6, .slice y2 a7 a8] 35)
  have HB := Lib.hid (below_one w (.cells #[.int .i64 ty, .string p, .slice x1 a1 a2, .slice x2 a3 a4, .int .i64 ty', .string q, .slice y1 a5 a6, .slice y2 a7 a8] 35))
  go_enter Tryd.func35, Tryd.ntmps35
  go_wp2
  go_ret
  exact ⟨by rw [← bytes_beq]; rfl, HB.out⟩
set_option maxRecDepth 100000 in
set_option maxHeartbeats 4000000 in
theorem indexPath_any (A : Option Addr) (n c b : Nat) (C : List (Dif × Dif)) (ys : List Value) (P : ByteArray) (w : World) (hr : Reads w w.heap.size 8 A n ys) (hd : DRow w none (flatP C) ys) (hb : w.cell? ⟨b, 0, none⟩ = some (.string P)) (hn : n ≤ 1000) :
    Calls Tryd.prog 56 #[.slice A n c, .func (.func 35) #[] #[.pointer (some ⟨b, 0, none⟩)]] w fun e w' => ∃ z : Int, e = .returned (.int .i64 z) ∧ decide (0 ≤ z) = takenB Dif.path C P ∧ Below w.heap.size w w' := by
  have HL : Hid (C.length = n) := by show _ = _; have h1 := hr.1; have h2 := hd.length; rw [flatP_length] at h2; omega
  have HR := Lib.hid hr
  have HD := Lib.hid hd
  have HB := Lib.hid hb
  clear hr hd hb
  go_enter Tryd.func56, Tryd.ntmps56
  go_wp2
  go_loopw [8] (fun si wr => ∃ j : Nat, j ≤ n ∧ si = .int .i64 j ∧ Hid (∀ q ∈ C.take j, q.1.path ≠ P) ∧ Hid (Below w.heap.size w wr)) (fun si _ => n - (intOf si).toNat)
  case atStart => exact ⟨0, Nat.zero_le _, rfl, by show ∀ q ∈ C.take 0, _; simp, Below.refl _ _⟩
  case round =>
    obtain ⟨j, hj, rfl, HQ, HW⟩ := hrel
    by_cases hlt : j < n
    · obtain ⟨bb, o, d, e, hd1, hd2, rfl, hbb, ⟨P1, p1, P2, p2, ⟨k0, k1, k2, k3⟩, _, _, _⟩, ⟨P3, p3, P4, p4, ⟨k4, k5, k6, k7⟩, _, _, _⟩⟩ := HD.out.pair HR.out (Nat.le_refl _) HW.out hlt
      obtain ⟨q, hq, htk⟩ : ∃ q, C[j]? = some q ∧ C.take (j + 1) = C.take j ++ [q] := ⟨_, List.getElem?_eq_getElem (by have := HL.out; omega), List.take_succ_eq_append_getElem (by have := HL.out; omega)⟩
      obtain rfl : q.1 = d := by
        have h := (flatP_at C j).1
        rw [hd1, hq] at h
        injection h with h
        exact h.symm
      have g1 : (j : Int) < (n : Int) := by omega
      have HC := Lib.hid (fun W (hW : Below w.heap.size w W) => pathIs_any (q.1.ty : Nat) (e.ty : Nat) q.1.path e.path P P1 P2 P3 P4 (identB q.1.bef).length p1 (identB q.1.aft).length p2 (identB e.bef).length p3 (identB e.aft).length p4 b W (cell_later hW HB.out))
      have HTK := Lib.hid htk
      have HMEM := Lib.hid (List.mem_of_getElem? hq)
      have hsz := HW.out.size
      generalize identB q.1.bef = I1 at *
      generalize identB q.1.aft = I2 at *
      generalize identB e.bef = I3 at *
      generalize identB e.aft = I4 at *
      clear hd1 hd2 hq htk
      by_cases hp : q.1.path = P
      · have hpd : decide (q.1.path = P) = true := decide_eq_true hp
        rw [hpd] at HC
        have HT : Hid (takenB Dif.path C P = true) := by
          show _ = _
          simp only [takenB, List.any_eq_true, decide_eq_true_eq]
          exact ⟨q, HMEM.out, hp⟩
        clear hpd hp
        generalize q.1.path = Q at *
        generalize q.1.ty = ty at *
        go_wp2_with (first | (go_at_call 35; (with_reducible refine (HC.out _ HW.out).mono ?_); rintro e2 w2 ⟨rfl, hb2⟩; have HB2 := Lib.hid (below_then HW.out hsz hb2); clear hb2) | fail)
        (try simp only [Exit.inBlock, Exit.then])
        go_ret
        exact ⟨_, rfl, by rw [HT.out]; exact decide_eq_true (by omega), HB2.out⟩
      · have hpd : decide (q.1.path = P) = false := decide_eq_false hp
        rw [hpd] at HC
        have HNE := Lib.hid hp
        clear hpd hp
        go_wp2_with (first | (go_at_call 35; (with_reducible refine (HC.out _ HW.out).mono ?_); rintro e2 w2 ⟨rfl, hb2⟩; have HB2 := Lib.hid (below_then HW.out hsz hb2); clear hb2) | fail)
        go_roundw
        case rel => exact ⟨j + 1, by omega, by go_num, by show ∀ q2 ∈ C.take (j + 1), _; rw [HTK.out]; intro q2 h2; rcases List.mem_append.1 h2 with h2 | h2; exact HQ.out q2 h2; simp at h2; subst h2; exact HNE.out, HB2.out⟩
        case measure => simp [intOf]; omega
    · have g1 : ¬ (j : Int) < (n : Int) := by omega
      have HT : Hid (takenB Dif.path C P = false) := by
        show _ = _
        have h := HQ.out
        rw [List.take_of_length_le (by have := HL.out; omega)] at h
        rw [takenB, List.any_eq_false]
        intro q hq
        simpa using h q hq
      go_wp2
      go_ret
      exact ⟨_, rfl, by rw [HT.out]; rfl, HW.out⟩
set_option maxRecDepth 100000 in
set_option maxHeartbeats 4000000 in
theorem containsPath_any (A : Option Addr) (n c b : Nat) (C : List (Dif × Dif)) (ys : List Value) (P : ByteArray) (w : World) (hr : Reads w w.heap.size 8 A n ys) (hd : DRow w none (flatP C) ys) (hb : w.cell? ⟨b, 0, none⟩ = some (.string P)) (hn : n ≤ 1000) :
    Calls Tryd.prog 34 #[.slice A n c, .func (.func 35) #[] #[.pointer (some ⟨b, 0, none⟩)]] w fun e w' => e = .returned (.bool (takenB Dif.path C P)) ∧ Below w.heap.size w w' := by
  have HI := Lib.hid (indexPath_any A n c b C ys P w hr hd hb hn)
  clear hr hd hb
  go_enter Tryd.func34, Tryd.ntmps34
  go_wp2_with (first | (go_at_call 56; (with_reducible refine HI.out.mono ?_); rintro e w1 ⟨z, rfl, hz, hb⟩; have HB := Lib.hid hb; have HZ := Lib.hid hz; clear hz hb) | fail)
  go_ret
  refine ⟨?_, HB.out⟩
  rw [← HZ.out]
  rfl
set_option maxRecDepth 100000 in
set_option maxHeartbeats 4000000 in
theorem taken_any (A : Option Addr) (n c bx : Nat) (C : List (Dif × Dif)) (ys : List Value) (P : ByteArray) (w : World) (hr : Reads w w.heap.size 8 A n ys) (hd : DRow w none (flatP C) ys) (hb : w.cell? ⟨bx, 0, none⟩ = some (.slice A n c)) (hn : n ≤ 1000) :
    Calls Tryd.prog 33 #[.string P, .pointer (some ⟨bx, 0, none⟩)] w fun e w' => e = .returned (.bool (takenB Dif.path C P)) ∧ Below w.heap.size w w' := by
  have hb2 := cell_alloc hb (.cells #[.string P] 9)
  have HB0 := Lib.hid (below_one w (.cells #[.string P] 9))
  have HI := Lib.hid (containsPath_any A n c w.heap.size C ys P _ (hr.on HB0.out) (hd.below HB0.out) ((Blk.new w 9 #[.string P]).cell 0) hn)
  clear hr hd hb
  go_enter Tryd.func33, Tryd.ntmps33
  go_wp2_with (first | (go_at_call 34; (with_reducible refine HI.out.mono ?_); rintro e w1 ⟨rfl, hb⟩; have HB := Lib.hid (below_then HB0.out HB0.out.size hb); clear hb) | fail)
  go_ret
  exact ⟨rfl, HB.out⟩
end Go.Proofs.YtijbdinemjiepaaDoor
