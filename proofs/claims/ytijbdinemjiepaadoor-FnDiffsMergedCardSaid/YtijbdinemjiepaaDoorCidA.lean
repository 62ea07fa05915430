/- Which codes are allowed: the library's list and the reference's. -/
import Derived.Test.YtijbdinemjiepaaDoorCidP
namespace Go.Proofs.YtijbdinemjiepaaDoor
open Go.RowKit

def secure (c : Nat) : Bool := decide (c = 0) || (decide (17 ≤ c) && decide (c ≤ 23)) || (decide (25 ≤ c) && decide (c ≤ 30)) || decide (c = 86) || (decide (45588 ≤ c) && decide (c ≤ 45632)) || (decide (45652 ≤ c) && decide (c ≤ 45664))
/-- A bool comes back, and all that was there is as it was. -/
structure Ans (w : World) (b : Bool) (r : Ending) (w' : World) : Prop where
  ret : r = .returned (.bool b)
  below : Below w.heap.size w w'
set_option maxRecDepth 100000 in
set_option maxHeartbeats 2000000 in
theorem allowed_any (c : Nat) (w : World) (hc : c < 2097152) : Calls Tryd.prog 111 #[.agg #[], .int .u64 c] w (Ans w (secure c)) := by
  go_enter Tryd.func111, Tryd.ntmps111
  go_wp2
  all_goals
    go_ret
    refine ⟨?_, below_one _ _⟩
    simp only [beq_eq_false_iff_ne, ne_eq, beq_iff_eq] at *
    first
      | (have hs : secure c = true := by unfold secure; simp; omega
         rw [hs]; rfl)
      | (have hs : secure c = false := by unfold secure; simp; omega
         rw [hs]; rfl)
set_option maxRecDepth 100000 in
set_option maxHeartbeats 2000000 in
theorem secure_any (c : Nat) (w : World) (hc : c < 2097152) : Calls Tryd.prog 40 #[.int .u64 c] w (Ans w (secure c)) := by
  go_enter Tryd.func40, Tryd.ntmps40
  go_wp2
  all_goals
    go_ret
    refine ⟨?_, Below.refl _ _⟩
    simp only [beq_eq_false_iff_ne, ne_eq, beq_iff_eq] at *
    first
      | (have hs : secure c = true := by unfold secure; simp; omega
         rw [hs]; rfl)
      | (have hs : secure c = false := by unfold secure; simp; omega
         rw [hs]; rfl)
      | (refine congrArg (fun b => Ending.returned (.bool b)) (?_ : (decide ((c : Int) ≤ 45632) || decide ((c : Int) ≤ 45664)) = secure c)
         rw [Bool.eq_iff_iff]; simp [secure]; omega)
      | (refine congrArg (fun b => Ending.returned (.bool b)) (?_ : (decide ((c : Int) ≤ 45632)) = secure c)
         rw [Bool.eq_iff_iff]; simp [secure]; omega)
/-- What is against a hash. -/
def safeN (c n : Nat) : Int := if secure c then if c ≠ 0 ∧ n < 20 then 2 else if c ≠ 0 ∧ 128 < n then 3 else 0 else 1
set_option maxRecDepth 100000 in
set_option maxHeartbeats 2000000 in
theorem safe_any (c n : Nat) (w : World) (hc : c < 2097152) (hn : n ≤ 1000) : Calls Tryd.prog 17 #[.int .u64 c, .int .i64 n] w fun e w' => e = .returned (.int .i64 (safeN c n)) ∧ Below w.heap.size w w' := by
  cases hs : secure c
  all_goals
    go_enter Tryd.func17, Tryd.ntmps17
    go_wp2_with (first | (go_at_call 40; refine (secure_any c _ hc).mono ?_; rw [hs]; rintro e w1 ⟨rfl, hb1⟩) | fail)
  all_goals
    go_ret
    refine ⟨?_, hb1⟩
    first
      | (have h : safeN c n = 1 := by
           unfold safeN
           rw [hs]
           simp only [bne_iff_ne, ne_eq, bne_eq_false_iff_eq] at *
           (repeat' split) <;> first | rfl | (simp_all; done) | (exfalso; omega)
         rw [h]; rfl)
      | (have h : safeN c n = 0 := by
           unfold safeN
           rw [hs]
           simp only [bne_iff_ne, ne_eq, bne_eq_false_iff_eq] at *
           (repeat' split) <;> first | rfl | (simp_all; done) | (exfalso; omega)
         rw [h]; rfl)
      | (have h : safeN c n = 2 := by
           unfold safeN
           rw [hs]
           simp only [bne_iff_ne, ne_eq, bne_eq_false_iff_eq] at *
           (repeat' split) <;> first | rfl | (simp_all; done) | (exfalso; omega)
         rw [h]; rfl)
      | (have h : safeN c n = 3 := by
           unfold safeN
           rw [hs]
           simp only [bne_iff_ne, ne_eq, bne_eq_false_iff_eq] at *
           (repeat' split) <;> first | rfl | (simp_all; done) | (exfalso; omega)
         rw [h]; rfl)
end Go.Proofs.YtijbdinemjiepaaDoor
