/- The sizes of a block, of a want list. -/
import Derived.Test.YtocdbecakefnnaaDoorMgS
namespace Go.Proofs.YtocdbecakefnnaaDoor
open Go.RowKit

theorem partB_pos {key : UInt8} {l : List UInt8} (h : 0 < l.length) : (partB key l).length = 1 + l.length + (uv l.length).length := by unfold partB; rw [if_pos h, pieceB_length]
theorem partB_zero {key : UInt8} {l : List UInt8} (h : ¬ 0 < l.length) : (partB key l).length = 0 := by unfold partB; rw [if_neg h]; rfl
theorem partB_le {key : UInt8} {l : List UInt8} (h : l.length ≤ 100000) : (partB key l).length ≤ 100011 := by
  unfold partB
  have := uv_le l.length (by omega)
  split
  · rw [pieceB_length]; omega
  · simp
set_option maxRecDepth 100000 in
set_option maxHeartbeats 4000000 in
theorem bloSize_any (x : Blo) (b o B : Nat) (w : World) (hl : x.pre.length ≤ 100000) (hl2 : x.data.length ≤ 100000) (hx : ObjB w B b o (bloF x)) :
    Calls Tryd.prog 46 #[.pointer (some ⟨b, o, none⟩)] w fun e w' => e = .returned (.int .i64 ((bloB x).length : Nat)) ∧ w = w' := by
  obtain ⟨A1, c1, k1, _, _⟩ := hx.byt (i := 0) rfl
  obtain ⟨A2, c2, k2, _, _⟩ := hx.byt (i := 1) rfl
  simp only [Nat.add_zero] at k1
  have HLEN : Hid ((bloB x).length = (partB 10 x.pre).length + (partB 18 x.data).length) := Lib.hid (by unfold bloB; rw [List.length_append])
  have p1 := partB_le (key := 10) hl
  have p2 := partB_le (key := 18) hl2
  have u1 := uv_le x.pre.length (by omega)
  have u2 := uv_le x.data.length (by omega)
  obtain ⟨m1, hm1⟩ : ∃ m, (partB 10 x.pre).length = m := ⟨_, rfl⟩
  obtain ⟨m2, hm2⟩ : ∃ m, (partB 18 x.data).length = m := ⟨_, rfl⟩
  have e1 : if 0 < x.pre.length then m1 = 1 + x.pre.length + (uv x.pre.length).length else m1 = 0 := by
    split
    · rw [← hm1]; exact partB_pos (by assumption)
    · rw [← hm1]; exact partB_zero (by assumption)
  have e2 : if 0 < x.data.length then m2 = 1 + x.data.length + (uv x.data.length).length else m2 = 0 := by
    split
    · rw [← hm2]; exact partB_pos (by assumption)
    · rw [← hm2]; exact partB_zero (by assumption)
  rw [hm1] at HLEN p1
  rw [hm2] at HLEN p2
  generalize x.pre.length = a at *
  generalize x.data.length = d at *
  obtain ⟨y1, hy1⟩ : ∃ m, (uv a).length = m := ⟨_, rfl⟩
  obtain ⟨y2, hy2⟩ : ∃ m, (uv d).length = m := ⟨_, rfl⟩
  have HU1 := Lib.hid hy1
  have HU2 := Lib.hid hy2
  rw [hy1] at e1 u1
  rw [hy2] at e2 u2
  clear hy1 hy2 hm1 hm2 hx
  by_cases h1 : 0 < a
  · rw [if_pos h1] at e1
    have g1 : (0 : Int) < (a : Int) := by omega
    by_cases h2 : 0 < d
    · rw [if_pos h2] at e2
      have g2 : (0 : Int) < (d : Int) := by omega
      have HE : Hid (m1 + m2 = 1 + a + y1 + (1 + d + y2)) := Lib.hid (by omega)
      clear e1 e2 p1 p2
      go_enter Tryd.func46, Tryd.ntmps46
      go_wp2_with (first | (go_at_call_of 45 (Value.int .u64 (a : Int)); (with_reducible refine (sov_any a _ (by omega)).mono ?_); rw [HU1.out]; rintro e w7 ⟨rfl, rfl⟩) | (go_at_call 45; (with_reducible refine (sov_any d _ (by omega)).mono ?_); rw [HU2.out]; rintro e w7 ⟨rfl, rfl⟩) | fail)
      go_ret
      exact ⟨by rw [HLEN.out, HE.out]; exact congrArg Ending.returned (num_i64 (by omega)), rfl⟩
    · rw [if_neg h2] at e2
      have g2 : ¬ (0 : Int) < (d : Int) := by omega
      have HE : Hid (m1 + m2 = 1 + a + y1) := Lib.hid (by omega)
      clear e1 e2 p1 p2
      go_enter Tryd.func46, Tryd.ntmps46
      go_wp2_with (first | (go_at_call 45; (with_reducible refine (sov_any a _ (by omega)).mono ?_); rw [HU1.out]; rintro e w7 ⟨rfl, rfl⟩) | fail)
      go_ret
      exact ⟨by rw [HLEN.out, HE.out]; exact congrArg Ending.returned (num_i64 (by omega)), rfl⟩
  · rw [if_neg h1] at e1
    have g1 : ¬ (0 : Int) < (a : Int) := by omega
    by_cases h2 : 0 < d
    · rw [if_pos h2] at e2
      have g2 : (0 : Int) < (d : Int) := by omega
      have HE : Hid (m1 + m2 = 1 + d + y2) := Lib.hid (by omega)
      clear e1 e2 p1 p2
      go_enter Tryd.func46, Tryd.ntmps46
      go_wp2_with (first | (go_at_call 45; (with_reducible refine (sov_any d _ (by omega)).mono ?_); rw [HU2.out]; rintro e w7 ⟨rfl, rfl⟩) | fail)
      go_ret
      exact ⟨by rw [HLEN.out, HE.out]; exact congrArg Ending.returned (num_i64 (by omega)), rfl⟩
    · rw [if_neg h2] at e2
      have g2 : ¬ (0 : Int) < (d : Int) := by omega
      have HE : Hid (m1 + m2 = 0) := Lib.hid (by omega)
      clear e1 e2 p1 p2
      go_enter Tryd.func46, Tryd.ntmps46
      go_wp2
      go_ret
      exact ⟨by rw [HLEN.out, HE.out]; exact congrArg Ending.returned (num_i64 (by omega)), rfl⟩
theorem entB_le {e : Ent} (h : e.cid.length ≤ 1000) : (entB e).length ≤ 1040 := by
  unfold entB
  have h1 := numB_le 16 e.prio
  have h2 := flagB_le 24 e.cancel
  have h3 := numB_le 32 e.type
  have h4 := flagB_le 40 e.dont
  have h5 := uv_le e.cid.length (by omega)
  simp only [List.length_append, pieceB_length]
  omega
theorem preB_le {e : Pre} (h : e.cid.length ≤ 1000) : (preB e).length ≤ 1040 := by
  unfold preB
  have h1 := numB_le 16 e.type
  have h5 := uv_le e.cid.length (by omega)
  simp only [List.length_append, pieceB_length]
  omega
theorem piece_le {key : UInt8} {l : List UInt8} {n : Nat} (h : l.length ≤ n) (hn : n ≤ 1000000000) : (pieceB key l).length ≤ n + 11 := by
  have h5 := uv_le l.length (by omega)
  rw [pieceB_length]
  omega
theorem flat_le {α : Type} (F : α → List UInt8) (k : Nat) : ∀ (l : List α) (_ : ∀ x ∈ l, (F x).length ≤ k), (l.flatMap F).length ≤ l.length * k
  | [], _ => by simp
  | x :: t, h => by
    have h1 := flat_le F k t (fun y hy => h y (List.mem_cons_of_mem _ hy))
    have h2 := h x List.mem_cons_self
    rw [List.flatMap_cons, List.length_append, List.length_cons, Nat.add_mul]
    omega
/-- The copy of an entry. -/
theorem copy_ent (w : World) (q : Ent) : ObjB (w.alloc (.cells #[.string ⟨q.cid.toArray⟩, .int .i32 q.prio, .bool q.cancel, .int .i32 q.type, .bool q.dont] 99)) (w.heap.size + 1) w.heap.size 0 (pentF q) :=
  ⟨Nat.lt_succ_self _, fun i f hf => by
    have hb := Blk.new w 99 #[.string ⟨q.cid.toArray⟩, .int .i32 q.prio, .bool q.cancel, .int .i32 q.type, .bool q.dont]
    have hi : i < 5 := (List.getElem?_eq_some_iff.1 hf).1
    rw [Nat.zero_add, hb.cell i]
    obtain rfl | rfl | rfl | rfl | rfl : i = 0 ∨ i = 1 ∨ i = 2 ∨ i = 3 ∨ i = 4 := by omega
    all_goals (injection hf with hf; subst hf; exact ⟨_, rfl, rfl⟩)⟩
end Go.Proofs.YtocdbecakefnnaaDoor
