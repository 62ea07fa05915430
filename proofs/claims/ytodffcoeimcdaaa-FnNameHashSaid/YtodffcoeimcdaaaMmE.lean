/- murmur3: the digest as it is made. -/
import Derived.Test.YtodffcoeimcdaaaMmD
namespace Go.Proofs.Ytodffcoeimcdaaa
open Go.RowKit Go.Lib

/-- A digest's cells: the length, the tail, the buffer, the seed, itself, the state. -/
def drow (g c : Nat) (t : Value) (bs : List Value) (h k : Nat) : List Value := .int .i64 c :: t :: (bs ++ [.int .u32 0, .iface 42 (.pointer (some ⟨g, 0, none⟩)), .int .u64 h, .int .u64 k])
def dcells (g c : Nat) (t : Value) (bs : List Value) (h k : Nat) : Array Value := (drow g c t bs h k).toArray
section
variable {g c : Nat} {t : Value} {bs : List Value} {h k : Nat}
theorem dcells_0 : (dcells g c t bs h k)[0]? = some (.int .i64 c) := by simp [dcells, drow]
theorem dcells_1 : (dcells g c t bs h k)[1]? = some t := by simp [dcells, drow]
theorem dcells_end (hb : bs.length = 16) (j : Nat) : (dcells g c t bs h k)[18 + j]? = ([.int .u32 0, .iface 42 (.pointer (some ⟨g, 0, none⟩)), .int .u64 h, .int .u64 k] : List Value)[j]? := by
  rw [dcells, List.getElem?_toArray, drow, show 18 + j = (16 + j) + 1 + 1 by omega, List.getElem?_cons_succ, List.getElem?_cons_succ, List.getElem?_append_right (by omega), hb, Nat.add_sub_cancel_left]
theorem dcells_buf (hb : bs.length = 16) (j : Nat) (hj : j < 16) : (dcells g c t bs h k)[2 + j]? = bs[j]? := by
  rw [dcells, List.getElem?_toArray, drow, show 2 + j = j + 1 + 1 by omega, List.getElem?_cons_succ, List.getElem?_cons_succ, List.getElem?_append_left (by omega)]
theorem dcells_set0 (c' : Nat) : (dcells g c t bs h k).setIfInBounds 0 (.int .i64 c') = dcells g c' t bs h k := by
  rw [dcells, List.setIfInBounds_toArray]; rfl
theorem dcells_set1 (t' : Value) : (dcells g c t bs h k).setIfInBounds 1 t' = dcells g c t' bs h k := by
  rw [dcells, List.setIfInBounds_toArray]; rfl
theorem dcells_set20 (hb : bs.length = 16) (h' : Nat) : (dcells g c t bs h k).setIfInBounds 20 (.int .u64 h') = dcells g c t bs h' k := by
  rw [dcells, List.setIfInBounds_toArray]
  congr 1
  unfold drow
  rw [List.set_cons_succ, List.set_cons_succ, List.set_append_right _ _ (by omega), hb]
  rfl
theorem dcells_set21 (hb : bs.length = 16) (k' : Nat) : (dcells g c t bs h k).setIfInBounds 21 (.int .u64 k') = dcells g c t bs h k' := by
  rw [dcells, List.setIfInBounds_toArray]
  congr 1
  unfold drow
  rw [List.set_cons_succ, List.set_cons_succ, List.set_append_right _ _ (by omega), hb]
  rfl
end
/-- A digest in memory. -/
structure Dig (w : World) (g c : Nat) (t : Value) (bs : List Value) (h k : Nat) : Prop where
  blk : Blk w g 52 (dcells g c t bs h k)
  len : bs.length = 16
section
variable {w : World} {g c : Nat} {t : Value} {bs : List Value} {h k : Nat}
theorem Dig.c0 (d : Dig w g c t bs h k) : w.cell? ⟨g, 0, none⟩ = some (.int .i64 c) := (d.blk.cell 0).trans dcells_0
theorem Dig.c1 (d : Dig w g c t bs h k) : w.cell? ⟨g, 1, none⟩ = some t := (d.blk.cell 1).trans dcells_1
theorem Dig.c18 (d : Dig w g c t bs h k) : w.cell? ⟨g, 18, none⟩ = some (.int .u32 0) := (d.blk.cell 18).trans (dcells_end d.len 0)
theorem Dig.c19 (d : Dig w g c t bs h k) : w.cell? ⟨g, 19, none⟩ = some (.iface 42 (.pointer (some ⟨g, 0, none⟩))) := (d.blk.cell 19).trans (dcells_end d.len 1)
theorem Dig.c20 (d : Dig w g c t bs h k) : w.cell? ⟨g, 20, none⟩ = some (.int .u64 h) := (d.blk.cell 20).trans (dcells_end d.len 2)
theorem Dig.c21 (d : Dig w g c t bs h k) : w.cell? ⟨g, 21, none⟩ = some (.int .u64 k) := (d.blk.cell 21).trans (dcells_end d.len 3)
theorem Dig.drew (d : Dig w g c t bs h k) : Dig w.drew g c t bs h k := ⟨d.blk.drew, d.len⟩
theorem Dig.drewN (d : Dig w g c t bs h k) (n : Nat) : Dig (w.drewN n) g c t bs h k := ⟨d.blk.drewN n, d.len⟩
theorem Dig.set0 (d : Dig w g c t bs h k) (c' : Nat) : Dig (w.setCell ⟨g, 0, none⟩ (.int .i64 c')) g c' t bs h k := ⟨by rw [← dcells_set0 (c := c)]; exact d.blk.set_ 0 _, d.len⟩
theorem Dig.set1 (d : Dig w g c t bs h k) (t' : Value) : Dig (w.setCell ⟨g, 1, none⟩ t') g c t' bs h k := ⟨by rw [← dcells_set1 (t := t)]; exact d.blk.set_ 1 _, d.len⟩
theorem Dig.set20 (d : Dig w g c t bs h k) (h' : Nat) : Dig (w.setCell ⟨g, 20, none⟩ (.int .u64 h')) g c t bs h' k := ⟨by rw [← dcells_set20 d.len (h := h)]; exact d.blk.set_ 20 _, d.len⟩
theorem Dig.set21 (d : Dig w g c t bs h k) (k' : Nat) : Dig (w.setCell ⟨g, 21, none⟩ (.int .u64 k')) g c t bs h k' := ⟨by rw [← dcells_set21 d.len (k := k)]; exact d.blk.set_ 21 _, d.len⟩
end
set_option maxRecDepth 100000 in
set_option maxHeartbeats 8000000 in
theorem reset_any (g c : Nat) (t : Value) (bs : List Value) (h k : Nat) (w : World) (d : Dig w g c t bs h k) :
    Calls Try.prog 41 #[.pointer (some ⟨g, 0, none⟩)] w fun e w' => e = .returned (.tuple #[]) ∧ Dig w' g c t bs 0 0 ∧ w.grownBy w' (some g) := by
  have k18 := d.c18
  have k20 := d.c20
  have k21 := d.c21
  have f20 := d.blk.frozen 20
  have f21 := d.blk.frozen 21
  have HD := Lib.hid d
  clear d
  go_enter Try.func41, Try.ntmps41
  go_wp2_with fail
  go_region
  go_wp2
  refine bodyPost_end (results_none rfl _ _ _) rfl ?_
  exact ⟨rfl, ((HD.out.set20 0).set21 0).drew, only_drew (only_trans (only_set _ _ _ _) (only_set _ _ _ _))⟩
set_option maxRecDepth 100000 in
set_option maxHeartbeats 8000000 in
theorem bigReset_any (g c : Nat) (t : Value) (bs : List Value) (h k : Nat) (w : World) (d : Dig w g c t bs h k) :
    Calls Try.prog 16 #[.pointer (some ⟨g, 0, none⟩)] w fun e w' => e = .returned (.tuple #[]) ∧ Dig w' g 0 (.slice none 0 0) bs 0 0 ∧ w.grownBy w' (some g) := by
  have k0 := d.c0
  have k1 := d.c1
  have k19 := d.c19
  have f0 := d.blk.frozen 0
  have f1 := d.blk.frozen 1
  have hm : ∀ W : World, (Go.method 176 42 (.pointer (some ⟨g, 0, none⟩)) "pub-tholos/pub/murmur3.reset").run Try.prog W = .ok (41, .pointer (some ⟨g, 0, none⟩)) W := fun W => by kernel_rfl
  have HD := Lib.hid ((d.set0 0).set1 (.slice none 0 0))
  have HO := Lib.hid (only_trans (only_set w g 0 (.int .i64 (0 : Nat))) (only_set (w.setCell ⟨g, 0, none⟩ (.int .i64 (0 : Nat))) g 1 (.slice none 0 0)))
  clear d
  go_enter Try.func16, Try.ntmps16
  go_wp2_with (first | (go_at_call 41; refine (reset_any g _ _ _ _ _ _ HD.out).mono ?_; rintro e w1 ⟨rfl, hd, ho⟩; have HD1 := Lib.hid hd; have HO1 := Lib.hid (only_trans HO.out ho); clear hd ho) | fail)
  refine bodyPost_end (results_none rfl _ _ _) rfl ?_
  exact ⟨rfl, HD1.out, HO1.out⟩
def zer : List Value := List.replicate 16 (.int .u8 0)
theorem Dig.new (w : World) : Dig (w.alloc (.cells (dcells w.heap.size 0 (.slice none 0 0) zer 0 0) 52)) w.heap.size 0 (.slice none 0 0) zer 0 0 := ⟨Blk.new w _ _, by simp [zer]⟩
set_option maxRecDepth 100000 in
set_option maxHeartbeats 8000000 in
theorem new128_any (w : World) : Calls Try.prog 15 #[.int .u32 0] w fun e w' => e = .returned (.iface 42 (.pointer (some ⟨w.heap.size, 0, none⟩))) ∧ Dig w' w.heap.size 0 (.slice none 0 0) zer 0 0 ∧ Below w.heap.size w w' := by
  have HD := Lib.hid (Dig.new w)
  have HR := Lib.hid (bigReset_any w.heap.size 0 (.slice none 0 0) zer 0 0 _ HD.out)
  have HB := Lib.hid (below_one w (.cells (dcells w.heap.size 0 (.slice none 0 0) zer 0 0) 52))
  go_enter Try.func15, Try.ntmps15
  go_wp2_with (first | (go_at_call 16; refine HR.out.mono ?_; rintro e w1 ⟨rfl, hd, ho⟩; have HD1 := Lib.hid hd; have HB1 := Lib.hid (HB.out.grown ho HB.out.size (fun k e => by injection e with e; omega)); clear hd ho) | fail)
  go_ret
  exact ⟨rfl, HD1.out, HB1.out⟩
set_option maxRecDepth 100000 in
set_option maxHeartbeats 8000000 in
theorem new64s_any (w : World) : Calls Try.prog 14 #[.int .u32 0] w fun e w' => e = .returned (.iface 41 (.pointer (some ⟨w.heap.size, 0, none⟩))) ∧ Dig w' w.heap.size 0 (.slice none 0 0) zer 0 0 ∧ Below w.heap.size w w' := by
  have HN := Lib.hid (new128_any w)
  have hta : ∀ (q : Nat) (W : World), (Instr.typeAssert (.iface 42 (.pointer (some ⟨q, 0, none⟩))) 44 42 false).run Try.prog W = .ok (.pointer (some ⟨q, 0, none⟩)) W := fun q W => by kernel_rfl
  go_enter Try.func14, Try.ntmps14
  go_wp2_with (first | (go_at_call 15; refine HN.out.mono ?_; rintro e w1 ⟨rfl, hd, hb⟩; have HD1 := Lib.hid hd; have HB1 := Lib.hid hb; clear hd hb) | fail)
  go_ret
  exact ⟨rfl, HD1.out, HB1.out⟩
set_option maxRecDepth 100000 in
set_option maxHeartbeats 8000000 in
theorem new64_any (w : World) : Calls Try.prog 13 #[] w fun e w' => e = .returned (.iface 41 (.pointer (some ⟨w.heap.size, 0, none⟩))) ∧ Dig w' w.heap.size 0 (.slice none 0 0) zer 0 0 ∧ Below w.heap.size w w' := by
  have HN := Lib.hid (new64s_any w)
  go_enter Try.func13, Try.ntmps13
  go_wp2_with (first | (go_at_call 14; refine HN.out.mono ?_; rintro e w1 ⟨rfl, hd, hb⟩; have HD1 := Lib.hid hd; have HB1 := Lib.hid hb; clear hd hb) | fail)
  go_ret
  exact ⟨rfl, HD1.out, HB1.out⟩
end Go.Proofs.Ytodffcoeimcdaaa
