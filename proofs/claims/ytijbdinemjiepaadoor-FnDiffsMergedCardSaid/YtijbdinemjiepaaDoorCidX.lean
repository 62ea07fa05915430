/- What the library says of an identifier: nothing, or one of three errors. -/
import Derived.Test.YtijbdinemjiepaaDoorCidA
namespace Go.Proofs.YtijbdinemjiepaaDoor
open Go.RowKit

/-- Where the three errors lie. -/
structure Errs (w : World) (a1 a2 a3 : Addr) : Prop where
  g1 : w.cell? ⟨1, 0, none⟩ = some (.iface 153 (.pointer (some a1)))
  g2 : w.cell? ⟨2, 0, none⟩ = some (.iface 153 (.pointer (some a2)))
  g3 : w.cell? ⟨3, 0, none⟩ = some (.iface 153 (.pointer (some a3)))
  n12 : a1 ≠ a2
  n13 : a1 ≠ a3
  n23 : a2 ≠ a3
  b1 : ∃ c t, w.heap[a1.block]? = some (.cells c t (0, 0))
  b2 : ∃ c t, w.heap[a2.block]? = some (.cells c t (0, 0))
  b3 : ∃ c t, w.heap[a3.block]? = some (.cells c t (0, 0))
theorem heap_below {w w' : World} {k : Nat} {o : Obj} (h : w.heap[k]? = some o) (hb : Below w.heap.size w w') : w'.heap[k]? = some o := by
  rcases Nat.lt_or_ge k w.heap.size with hk | hk
  · rw [hb.block k hk]; exact h
  · rw [Array.getElem?_eq_none hk] at h; cases h
theorem Errs.below {w w' : World} {a1 a2 a3 : Addr} (h : Errs w a1 a2 a3) (hb : Below w.heap.size w w') : Errs w' a1 a2 a3 := by
  have l1 := World.block_lt_of_cell? w _ h.g1
  have l2 := World.block_lt_of_cell? w _ h.g2
  have l3 := World.block_lt_of_cell? w _ h.g3
  exact ⟨(hb.cell (p := ⟨1, 0, none⟩) l1).trans h.g1, (hb.cell (p := ⟨2, 0, none⟩) l2).trans h.g2, (hb.cell (p := ⟨3, 0, none⟩) l3).trans h.g3, h.n12, h.n13, h.n23, h.b1.imp fun _ ⟨t, e⟩ => ⟨t, heap_below e hb⟩, h.b2.imp fun _ ⟨t, e⟩ => ⟨t, heap_below e hb⟩, h.b3.imp fun _ ⟨t, e⟩ => ⟨t, heap_below e hb⟩⟩
def errV (a : Addr) : Value := .iface 153 (.pointer (some a))
/-- What ValidateCid returns. -/
def saidV (a1 a2 a3 : Addr) (c n : Nat) : Value := if secure c then if c ≠ 0 ∧ n < 20 then errV a2 else if c ≠ 0 ∧ 128 < n then errV a3 else .nilIface else errV a1
set_option maxRecDepth 100000 in
set_option maxHeartbeats 2000000 in
theorem validate_any (cdc : UInt8) (code : Nat) (d : List UInt8) (s : ByteArray) (a1 a2 a3 : Addr) (w : World) (hcd : cdc.toNat < 128) (hx : code < 2097152) (hd : d.length ≤ 1000) (hs : s.data.toList = cidBytes cdc code d) (he : Errs w a1 a2 a3) :
    Calls Tryd.prog 39 #[.iface 96 (.agg #[]), .agg #[.string s]] w fun e w' => e = .returned (saidV a1 a2 a3 code d.length) ∧ Below w.heap.size w w' := by
  have he1 := he.below (below_one w (.cells #[.string s] 72))
  have HP := Lib.hid (fun W : World => prefix_any cdc code d s W hcd hx hd hs)
  have HE := Lib.hid he1
  have hm : ∀ W : World, (Go.method 312 96 (.agg #[]) "IsAllowed").run Tryd.prog W = .ok (111, .agg #[]) W := fun W => by kernel_rfl
  have HD : Hid (d.length ≤ 1000) := hd
  clear he he1 hs
  cases hs : secure code
  all_goals
    go_enter Tryd.func39, Tryd.ntmps39
    go_wp2_with (first | (go_at_call 59; refine (HP.out _).mono ?_; unfold prefixV; rintro e w1 ⟨rfl, hb1⟩; have HE1 := Lib.hid (HE.out.below hb1); have HB1 := Lib.hid hb1; clear hb1) | (go_at_call 111; refine (allowed_any code _ hx).mono ?_; rw [hs]; rintro e w2 ⟨rfl, hb2⟩; have k2 : w2.cell? ⟨w1.heap.size, 2, none⟩ = some (.int .u64 code) := (hb2.cell (p := ⟨w1.heap.size, 2, none⟩) (by simp)).trans (by simp); have k3 : w2.cell? ⟨w1.heap.size, 3, none⟩ = some (.int .i64 (d.length : Nat)) := (hb2.cell (p := ⟨w1.heap.size, 3, none⟩) (by simp)).trans (by simp); have he2 := (HE1.out.below (below_one w1 _)).below hb2; have g1 := he2.g1; have g2 := he2.g2; have g3 := he2.g3; have HB2 := Lib.hid hb2; clear hb2 he2) | fail)
  all_goals
    go_ret
    refine ⟨?_, below_then (below_then (below_one w _) (by simp) HB1.out) (Nat.le_trans (by simp) HB1.out.size) (Below.mono ((below_one w1 _).trans (HB2.out.mono (by simp))) (Nat.le_refl _))⟩
    first
      | (have h : saidV a1 a2 a3 code d.length = errV a1 := by
           unfold saidV
           rw [hs]
           simp only [bne_iff_ne, ne_eq, bne_eq_false_iff_eq] at *
           (repeat' split) <;> first | rfl | (simp_all; done) | (exfalso; omega)
         rw [h]; rfl)
      | (have h : saidV a1 a2 a3 code d.length = .nilIface := by
           unfold saidV
           rw [hs]
           simp only [bne_iff_ne, ne_eq, bne_eq_false_iff_eq] at *
           (repeat' split) <;> first | rfl | (simp_all; done) | (exfalso; omega)
         rw [h]; rfl)
      | (have h : saidV a1 a2 a3 code d.length = errV a2 := by
           unfold saidV
           rw [hs]
           simp only [bne_iff_ne, ne_eq, bne_eq_false_iff_eq] at *
           (repeat' split) <;> first | rfl | (simp_all; done) | (exfalso; omega)
         rw [h]; rfl)
      | (have h : saidV a1 a2 a3 code d.length = errV a3 := by
           unfold saidV
           rw [hs]
           simp only [bne_iff_ne, ne_eq, bne_eq_false_iff_eq] at *
           (repeat' split) <;> first | rfl | (simp_all; done) | (exfalso; omega)
         rw [h]; rfl)
end Go.Proofs.YtijbdinemjiepaaDoor
