/- The laws' guards: zzFits13, partsFit. -/
import Derived.Test.YtocdbecakefnnaaDoorMgM
namespace Go.Proofs.YtocdbecakefnnaaDoor
open Go.RowKit

/-- A part by value. -/
def prtV (p : Prt) (A1 A2 : Option Addr) (c1 c2 : Nat) : Value := .agg #[.int .u8 (p.kind : Nat), .int .u8 (p.cid : Nat), .int .i32 p.prio, .int .i32 p.type, .bool p.cancel, .bool p.dont, .slice A1 p.pre.length c1, .slice A2 p.data.length c2]
def fit14B (p : Prt) : Bool := decide (p.pre.length ≤ 2147483647) && decide (p.data.length ≤ 2147483647)
def fit13B (ps : List Prt) : Bool := decide (ps.length ≤ 2147483647) && ps.all fit14B
def bigB (p : Prt) : Bool := decide (2000 < p.pre.length) || decide (2000 < p.data.length)
set_option maxRecDepth 100000 in
theorem fits14_any (p : Prt) (A1 A2 : Option Addr) (c1 c2 : Nat) (w : World) : Calls Tryd.prog 16 #[.agg #[.int .u8 (p.kind : Nat), .int .u8 (p.cid : Nat), .int .i32 p.prio, .int .i32 p.type, .bool p.cancel, .bool p.dont, .slice A1 p.pre.length c1, .slice A2 p.data.length c2]] w fun e w' => e = .returned (.bool (fit14B p)) ∧ Below w.heap.size w w' := by
  have HB := Lib.hid (below_one w (.cells #[.int .u8 (p.kind : Nat), .int .u8 (p.cid : Nat), .int .i32 p.prio, .int .i32 p.type, .bool p.cancel, .bool p.dont, .slice A1 p.pre.length c1, .slice A2 p.data.length c2] 44))
  by_cases h1 : p.pre.length ≤ 2147483647
  · have g1 : ¬ (2147483647 : Int) < (p.pre.length : Int) := by omega
    by_cases h2 : p.data.length ≤ 2147483647
    · have g2 : ¬ (2147483647 : Int) < (p.data.length : Int) := by omega
      have HE : Hid (fit14B p = true) := Lib.hid (by unfold fit14B; simp [h1, h2])
      clear h1 h2
      go_enter Tryd.func16, Tryd.ntmps16
      go_wp2
      go_ret
      exact ⟨by rw [HE.out]; rfl, HB.out⟩
    · have g2 : (2147483647 : Int) < (p.data.length : Int) := by omega
      have HE : Hid (fit14B p = false) := Lib.hid (by unfold fit14B; simp [h2])
      clear h1 h2
      go_enter Tryd.func16, Tryd.ntmps16
      go_wp2
      go_ret
      exact ⟨by rw [HE.out]; rfl, HB.out⟩
  · have g1 : (2147483647 : Int) < (p.pre.length : Int) := by omega
    have HE : Hid (fit14B p = false) := Lib.hid (by unfold fit14B; simp [h1])
    clear h1
    go_enter Tryd.func16, Tryd.ntmps16
    go_wp2
    go_ret
    exact ⟨by rw [HE.out]; rfl, HB.out⟩
set_option maxRecDepth 100000 in
theorem big_any (p : Prt) (A1 A2 : Option Addr) (c1 c2 : Nat) (w : World) : Calls Tryd.prog 18 #[.agg #[.int .u8 (p.kind : Nat), .int .u8 (p.cid : Nat), .int .i32 p.prio, .int .i32 p.type, .bool p.cancel, .bool p.dont, .slice A1 p.pre.length c1, .slice A2 p.data.length c2]] w fun e w' => e = .returned (.bool (bigB p)) ∧ Below w.heap.size w w' := by
  have HB := Lib.hid (below_one w (.cells #[.int .u8 (p.kind : Nat), .int .u8 (p.cid : Nat), .int .i32 p.prio, .int .i32 p.type, .bool p.cancel, .bool p.dont, .slice A1 p.pre.length c1, .slice A2 p.data.length c2] 44))
  by_cases h1 : 2000 < p.pre.length
  · have g1 : (2000 : Int) < (p.pre.length : Int) := by omega
    have HE : Hid (bigB p = true) := Lib.hid (by unfold bigB; simp [h1])
    clear h1
    go_enter Tryd.func18, Tryd.ntmps18
    go_wp2
    go_ret
    exact ⟨by rw [HE.out]; rfl, HB.out⟩
  · have g1 : ¬ (2000 : Int) < (p.pre.length : Int) := by omega
    by_cases h2 : 2000 < p.data.length
    · have g2 : (2000 : Int) < (p.data.length : Int) := by omega
      have HE : Hid (bigB p = true) := Lib.hid (by unfold bigB; simp [h2])
      clear h1 h2
      go_enter Tryd.func18, Tryd.ntmps18
      go_wp2
      go_ret
      exact ⟨by rw [HE.out]; rfl, HB.out⟩
    · have g2 : ¬ (2000 : Int) < (p.data.length : Int) := by omega
      have HE : Hid (bigB p = false) := Lib.hid (by unfold bigB; simp [h1, h2])
      clear h1 h2
      go_enter Tryd.func18, Tryd.ntmps18
      go_wp2
      go_ret
      exact ⟨by rw [HE.out]; rfl, HB.out⟩
theorem part_at {w W : World} {ps : List Prt} {A : Option Addr} {n c : Nat} (h : RowF w 8 n (ps.flatMap partF) (.slice A n c)) (hn : ps.length = n) (hW : Below w.heap.size w W) {j : Nat} (hj : j < n) :
    ∃ p b o A1 c1 A2 c2, ps[j]? = some p ∧ A = some ⟨b, o, none⟩ ∧ b < W.heap.size ∧ (W.cell? ⟨b, o + j * 8, none⟩ = some (.int .u8 (p.kind : Nat)) ∧ W.cell? ⟨b, o + j * 8 + 1, none⟩ = some (.int .u8 (p.cid : Nat)) ∧ W.cell? ⟨b, o + j * 8 + 2, none⟩ = some (.int .i32 p.prio) ∧ W.cell? ⟨b, o + j * 8 + 3, none⟩ = some (.int .i32 p.type) ∧
      W.cell? ⟨b, o + j * 8 + 4, none⟩ = some (.bool p.cancel) ∧ W.cell? ⟨b, o + j * 8 + 5, none⟩ = some (.bool p.dont) ∧ W.cell? ⟨b, o + j * 8 + 6, none⟩ = some (.slice A1 p.pre.length c1) ∧ W.cell? ⟨b, o + j * 8 + 7, none⟩ = some (.slice A2 p.data.length c2)) := by
  have hq : ps[j]? = some ps[j] := List.getElem?_eq_getElem (by omega)
  obtain ⟨b, o, A1, c1, A2, c2, ha, hb, hc, _⟩ := part_cells h hn hW hq
  exact ⟨_, b, o, A1, c1, A2, c2, hq, ha, Nat.lt_of_lt_of_le hb hW.size, hc⟩
set_option maxRecDepth 100000 in
set_option maxHeartbeats 4000000 in
theorem fits13_any (A : Option Addr) (n c : Nat) (ps : List Prt) (w : World) (h : RowF w 8 n (ps.flatMap partF) (.slice A n c)) (hn : ps.length = n) (hmx : n ≤ 9223372036854775807) :
    Calls Tryd.prog 5 #[.slice A n c] w fun e w' => e = .returned (.bool (fit13B ps)) ∧ Below w.heap.size w w' := by
  by_cases b1 : n ≤ 2147483647
  case neg =>
    have g1 : (2147483647 : Int) < (n : Int) := by omega
    have HE : Hid (fit13B ps = false) := Lib.hid (by unfold fit13B; simp [hn, b1])
    clear h hn
    go_enter Tryd.func5, Tryd.ntmps5
    go_wp2
    go_ret
    exact ⟨by rw [HE.out]; rfl, Below.refl _ _⟩
  have g1 : ¬ (2147483647 : Int) < (n : Int) := by omega
  have HR := Lib.hid h
  have HN := Lib.hid hn
  clear h hn
  go_enter Tryd.func5, Tryd.ntmps5
  go_wp2
  go_loopw [10] (fun si wr => ∃ j : Nat, j ≤ n ∧ si = .int .i64 j ∧ Hid (∀ q ∈ ps.take j, fit14B q = true) ∧ Hid (Below w.heap.size w wr)) (fun si _ => n - (intOf si).toNat)
  case atStart => exact ⟨0, Nat.zero_le _, rfl, by show ∀ q ∈ ps.take 0, _; simp, Below.refl _ _⟩
  case round =>
    obtain ⟨j, hj, rfl, HQ, HW⟩ := hrel
    by_cases hlt : j < n
    · obtain ⟨q, b, o, A1, c1, A2, c2, hq, rfl, hbl, k0, k1, k2, k3, k4, k5, k6, k7⟩ := part_at HR.out HN.out HW.out hlt
      have htk : ps.take (j + 1) = ps.take j ++ [q] := by rw [List.take_add_one, hq]; rfl
      have g2 : (j : Int) < (n : Int) := by omega
      have HTK := Lib.hid htk
      have HMEM := Lib.hid (List.mem_of_getElem? hq)
      have HC := Lib.hid (fun W => fits14_any q A1 A2 c1 c2 W)
      have HW1 := Lib.hid (below_alloc HW.out (.cells #[.int .u8 (q.kind : Nat), .int .u8 (q.cid : Nat), .int .i32 q.prio, .int .i32 q.type, .bool q.cancel, .bool q.dont, .slice A1 q.pre.length c1, .slice A2 q.data.length c2] 44))
      clear hq htk
      cases hf : fit14B q with
      | true =>
        have HF := Lib.hid hf
        rw [hf] at HC
        clear hf
        go_wp2_with (first | (go_at_call 16; (with_reducible refine (HC.out _).mono ?_); clear HC; rintro e w2 ⟨rfl, hb⟩; have HB2 := Lib.hid (below_then HW1.out HW1.out.size hb); clear hb) | fail)
        go_roundw
        case rel => exact ⟨j + 1, by omega, by go_num, by show ∀ q2 ∈ ps.take (j + 1), _; rw [HTK.out]; intro q2 h2; rcases List.mem_append.1 h2 with h2 | h2; exact HQ.out q2 h2; simp at h2; subst h2; exact HF.out, HB2.out⟩
        case measure => simp [intOf]; omega
      | false =>
        have HE : Hid (fit13B ps = false) := Lib.hid (by unfold fit13B; rw [Bool.and_eq_false_iff]; right; rw [List.all_eq_false]; exact ⟨q, HMEM.out, by simp [hf]⟩)
        rw [hf] at HC
        clear hf
        go_wp2_with (first | (go_at_call 16; (with_reducible refine (HC.out _).mono ?_); clear HC; rintro e w2 ⟨rfl, hb⟩; have HB2 := Lib.hid (below_then HW1.out HW1.out.size hb); clear hb) | fail)
        (try simp only [Exit.inBlock, Exit.then])
        go_ret
        exact ⟨by rw [HE.out]; rfl, HB2.out⟩
    · have g2 : ¬ (j : Int) < (n : Int) := by omega
      have HE : Hid (fit13B ps = true) := Lib.hid (by
        have h := HQ.out
        rw [List.take_of_length_le (by have := HN.out; omega)] at h
        unfold fit13B
        rw [Bool.and_eq_true]
        exact ⟨decide_eq_true (by have := HN.out; omega), List.all_eq_true.2 h⟩)
      go_wp2
      go_ret
      exact ⟨by rw [HE.out]; rfl, HW.out⟩
set_option maxRecDepth 100000 in
set_option maxHeartbeats 4000000 in
theorem indexBig_any (A : Option Addr) (n c : Nat) (ps : List Prt) (w : World) (h : RowF w 8 n (ps.flatMap partF) (.slice A n c)) (hn : ps.length = n) (hmx : n ≤ 40) :
    Calls Tryd.prog 40 #[.slice A n c, .func (.func 18) #[] #[]] w fun e w' => ∃ z : Int, e = .returned (.int .i64 z) ∧ decide (0 ≤ z) = ps.any bigB ∧ Below w.heap.size w w' := by
  have HR := Lib.hid h
  have HN := Lib.hid hn
  clear h hn
  go_enter Tryd.func40, Tryd.ntmps40
  go_wp2
  go_loopw [8] (fun si wr => ∃ j : Nat, j ≤ n ∧ si = .int .i64 j ∧ Hid (∀ q ∈ ps.take j, bigB q = false) ∧ Hid (Below w.heap.size w wr)) (fun si _ => n - (intOf si).toNat)
  case atStart => exact ⟨0, Nat.zero_le _, rfl, by show ∀ q ∈ ps.take 0, _; simp, Below.refl _ _⟩
  case round =>
    obtain ⟨j, hj, rfl, HQ, HW⟩ := hrel
    by_cases hlt : j < n
    · obtain ⟨q, b, o, A1, c1, A2, c2, hq, rfl, hbl, k0, k1, k2, k3, k4, k5, k6, k7⟩ := part_at HR.out HN.out HW.out hlt
      have htk : ps.take (j + 1) = ps.take j ++ [q] := by rw [List.take_add_one, hq]; rfl
      have g2 : (j : Int) < (n : Int) := by omega
      have HTK := Lib.hid htk
      have HMEM := Lib.hid (List.mem_of_getElem? hq)
      have HC := Lib.hid (fun W => big_any q A1 A2 c1 c2 W)
      clear hq htk
      cases hf : bigB q with
      | false =>
        have HF := Lib.hid hf
        rw [hf] at HC
        clear hf
        go_wp2_with (first | (go_at_call 18; (with_reducible refine (HC.out _).mono ?_); clear HC; rintro e w2 ⟨rfl, hb⟩; have HB2 := Lib.hid (below_then HW.out HW.out.size hb); clear hb) | fail)
        go_roundw
        case rel => exact ⟨j + 1, by omega, by go_num, by show ∀ q2 ∈ ps.take (j + 1), _; rw [HTK.out]; intro q2 h2; rcases List.mem_append.1 h2 with h2 | h2; exact HQ.out q2 h2; simp at h2; subst h2; exact HF.out, HB2.out⟩
        case measure => simp [intOf]; omega
      | true =>
        have HE : Hid (ps.any bigB = true) := Lib.hid (List.any_eq_true.2 ⟨q, HMEM.out, hf⟩)
        rw [hf] at HC
        clear hf
        go_wp2_with (first | (go_at_call 18; (with_reducible refine (HC.out _).mono ?_); clear HC; rintro e w2 ⟨rfl, hb⟩; have HB2 := Lib.hid (below_then HW.out HW.out.size hb); clear hb) | fail)
        (try simp only [Exit.inBlock, Exit.then])
        go_ret
        exact ⟨_, rfl, by rw [HE.out]; exact decide_eq_true (by omega), HB2.out⟩
    · have g2 : ¬ (j : Int) < (n : Int) := by omega
      have HE : Hid (ps.any bigB = false) := Lib.hid (by
        have h := HQ.out
        rw [List.take_of_length_le (by have := HN.out; omega)] at h
        rw [List.any_eq_false]
        intro q hq
        simp [h q hq])
      go_wp2
      go_ret
      exact ⟨_, rfl, by rw [HE.out]; rfl, HW.out⟩
set_option maxRecDepth 100000 in
theorem containsBig_any (A : Option Addr) (n c : Nat) (ps : List Prt) (w : World) (h : RowF w 8 n (ps.flatMap partF) (.slice A n c)) (hn : ps.length = n) (hmx : n ≤ 40) :
    Calls Tryd.prog 17 #[.slice A n c, .func (.func 18) #[] #[]] w fun e w' => e = .returned (.bool (ps.any bigB)) ∧ Below w.heap.size w w' := by
  have HI := Lib.hid (indexBig_any A n c ps w h hn hmx)
  clear h hn
  go_enter Tryd.func17, Tryd.ntmps17
  go_wp2_with (first | (go_at_call 40; (with_reducible refine HI.out.mono ?_); rintro e w1 ⟨z, rfl, hz, hb⟩; have HB := Lib.hid hb; have HZ := Lib.hid hz; clear hz hb) | fail)
  go_ret
  refine ⟨?_, HB.out⟩
  rw [← HZ.out]
  rfl
def fitB (ps : List Prt) : Bool := decide (ps.length ≤ 40) && !ps.any bigB
set_option maxRecDepth 100000 in
theorem partsFit_any (A : Option Addr) (n c : Nat) (ps : List Prt) (w : World) (h : RowF w 8 n (ps.flatMap partF) (.slice A n c)) (hn : ps.length = n) (hmx : n ≤ 9223372036854775807) :
    Calls Tryd.prog 6 #[.slice A n c] w fun e w' => e = .returned (.bool (fitB ps)) ∧ Below w.heap.size w w' := by
  by_cases b1 : n ≤ 40
  · have HI := Lib.hid (containsBig_any A n c ps w h hn b1)
    have g1 : (n : Int) ≤ 40 := by omega
    have HE : Hid (fitB ps = !ps.any bigB) := Lib.hid (by unfold fitB; simp [hn, b1])
    clear h hn b1
    go_enter Tryd.func6, Tryd.ntmps6
    go_wp2_with (first | (go_at_call 17; (with_reducible refine HI.out.mono ?_); rintro e w1 ⟨rfl, hb⟩; have HB := Lib.hid hb; clear hb) | fail)
    go_ret
    exact ⟨by rw [HE.out]; rfl, HB.out⟩
  · have g1 : ¬ (n : Int) ≤ 40 := by omega
    have HE : Hid (fitB ps = false) := Lib.hid (by unfold fitB; simp [hn, b1])
    clear h hn b1
    go_enter Tryd.func6, Tryd.ntmps6
    go_wp2
    go_ret
    exact ⟨by rw [HE.out]; rfl, Below.refl _ _⟩
end Go.Proofs.YtocdbecakefnnaaDoor
