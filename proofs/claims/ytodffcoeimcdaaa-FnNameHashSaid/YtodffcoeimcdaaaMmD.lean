/- murmur3: bytes that may be written; the reference's NameHash. -/
import Derived.Lib.LazyBuf
import Derived.Lib.ConvBytes
import Derived.Test.YtodffcoeimcdaaaMmC
namespace Go.Proofs.Ytodffcoeimcdaaa
open Go.RowKit Go.Lib

theorem infoU8 : (Try.prog.info? 5).map (fun i => (i.zero, i.size, i.bytes)) = some (some (.int .u8 0), 1, 1) := by kernel_rfl

/-- bytes.Equal: the same bytes; nil is as empty. -/
def sameB (a b : List UInt8) : Bool := a == b
theorem sameB_self (a : List UInt8) : sameB a a = true := by simp [sameB]
theorem sameB_eq {a b : List UInt8} : sameB a b = true ↔ a = b := by simp [sameB]
theorem equal_u8 (A1 A2 : Option Addr) (n1 c1 n2 c2 B1 B2 : Nat) (l1 l2 : List UInt8) (w : World) (h1 : Reads w B1 1 A1 n1 (u8s l1)) (h2 : Reads w B2 1 A2 n2 (u8s l2)) :
    Calls Try.prog 4 #[.slice A1 n1 c1, .slice A2 n2 c2] w fun e w' => e = .returned (.bool (sameB l1 l2)) ∧ w = w' := by
  have k1 := run_convert_reads (P := Try.prog) w 23 5 Try.underlying23 Try.underlying5 B1 A1 n1 c1 l1 h1 9 Try.underlying9
  have k2 := run_convert_reads (P := Try.prog) w 23 5 Try.underlying23 Try.underlying5 B2 A2 n2 c2 l2 h2 9 Try.underlying9
  clear h1 h2
  go_enter Try.func4, Try.ntmps4
  go_wp2
  go_ret
  exact ⟨rfl, rfl⟩
/-- The bytes L stand at the head of block g, and may be written. -/
structure ByRow (w : World) (g : Nat) (L : List UInt8) : Prop where
  lt : g < w.heap.size
  at_ : ∀ (j : Nat) (x : UInt8), L[j]? = some x → w.cell? ⟨g, j, none⟩ = some (.int .u8 (x.toNat : Int)) ∧ w.frozen? ⟨g, j, none⟩ = false
theorem ByRow.set {w : World} {g : Nat} {L : List UInt8} (h : ByRow w g L) (j : Nat) (x : UInt8) (hj : j < L.length) : ByRow (w.setCell ⟨g, j, none⟩ (.int .u8 (x.toNat : Int))) g (L.set j x) := by
  refine ⟨by simpa [World.setCell] using h.lt, fun k y hk => ⟨?_, ?_⟩⟩
  · by_cases hkj : k = j
    · subst hkj
      rw [List.getElem?_set_self hj] at hk
      obtain rfl := Option.some.inj hk
      exact World.cell?_setCell_same' _ _ _ (by rw [(h.at_ k _ (List.getElem?_eq_getElem hj)).1]; rfl)
    · rw [List.getElem?_set_ne (fun e => hkj e.symm)] at hk
      rw [World.cell?_setCell_other _ (a := ⟨g, j, none⟩) (b := ⟨g, k, none⟩) (h := fun e => hkj (by injection e with _ e2; exact e2.symm))]
      exact (h.at_ k y hk).1
  · rw [World.frozen?_setCell]
    have hkl : k < L.length := by have := (List.getElem?_eq_some_iff.1 hk).1; rwa [List.length_set] at this
    exact (h.at_ k _ (List.getElem?_eq_getElem hkl)).2
theorem ByRow.drew {w : World} {g : Nat} {L : List UInt8} (h : ByRow w g L) : ByRow w.drew g L := ⟨h.lt, h.at_⟩
theorem ByRow.drewN {w : World} {g : Nat} {L : List UInt8} (h : ByRow w g L) (n : Nat) : ByRow (w.drewN n) g L := ⟨h.lt, h.at_⟩
theorem ByRow.below {w w' : World} {g : Nat} {L : List UInt8} (h : ByRow w g L) (hb : Below w.heap.size w w') : ByRow w' g L :=
  ⟨Nat.lt_of_lt_of_le h.lt hb.size, fun j x hx => ⟨(hb.cell h.lt).trans (h.at_ j x hx).1, (hb.frozen h.lt).trans (h.at_ j x hx).2⟩⟩
theorem ByRow.reads {w : World} {g : Nat} {L : List UInt8} (h : ByRow w g L) : Reads w w.heap.size 1 (some ⟨g, 0, none⟩) L.length (u8s L) := by
  refine ⟨by rw [u8s_length]; omega, fun _ => ⟨_, rfl, h.lt, fun j u hu => ?_⟩⟩
  have hj : j < L.length := by have := (List.getElem?_eq_some_iff.1 hu).1; rwa [u8s_length] at this
  rw [u8s_at _ _ hj] at hu
  rw [add_plain, Nat.zero_add, (h.at_ j _ (List.getElem?_eq_getElem hj)).1, hu]
theorem Blk.byRow {w : World} {g : Nat} {t : TypeId} {L : List UInt8} (h : Blk w g t (u8s L).toArray) : ByRow w g L :=
  ⟨h.lt, fun j x hx => ⟨by rw [h.cell]; have hj := (List.getElem?_eq_some_iff.1 hx).1; have e := (List.getElem?_eq_some_iff.1 hx).2; rw [List.getElem?_toArray, u8s_at _ _ hj, e], h.frozen j⟩⟩
theorem below_bytes (w : World) (s : ByteArray) : Below w.heap.size w (Lib.bytesWorld w 5 s) :=
  ⟨rfl, rfl, rfl, by rw [Lib.bytesWorld_size]; omega, fun k hk => Lib.bytesWorld_at_old w _ s k hk⟩
theorem row_bytes (w : World) (s : ByteArray) : ByRow (Lib.bytesWorld w 5 s) w.heap.size s.data.toList := by
  refine ⟨by rw [Lib.bytesWorld_size]; omega, fun j x hx => ?_⟩
  have hj : j < s.data.toList.length := (List.getElem?_eq_some_iff.1 hx).1
  have hs : s.data.toList.length = s.size := Array.length_toList
  refine ⟨?_, ?_⟩
  · rw [Lib.bytesWorld_cell w _ s j (by omega), List.getD_eq_getElem?_getD, hx]; rfl
  · have h := Lib.bytesWorld_at_new w 5 s
    have hc : j < (Lib.bytesCells w 5 s).size := by unfold Lib.bytesCells; rw [Array.size_append, Array.size_map]; have : s.data.size = s.size := rfl; omega
    simp [World.frozen?, h]
    omega

/-- The eight bytes of a number, the highest one first. -/
def be8 (h : Nat) : List UInt8 := (List.range 8).map fun i => UInt8.ofNat (h / 2 ^ (56 - 8 * i))
def beTo (h i : Nat) : List UInt8 := (be8 h).take i ++ List.replicate (8 - i) 0
theorem beTo_len (h i : Nat) (hi : i ≤ 8) : (beTo h i).length = 8 := by simp [beTo, be8]; omega
theorem beTo_at (h i : Nat) (hi : i < 8) : (beTo h i)[i]? = some 0 := by
  have hl : ((be8 h).take i).length = i := by simp [be8]; omega
  rw [beTo, List.getElem?_append_right (by omega), hl, Nat.sub_self, List.getElem?_replicate]
  rw [if_pos (by omega)]
theorem beTo_set (h i : Nat) (hi : i < 8) : (beTo h i).set i (UInt8.ofNat (h / 2 ^ (56 - 8 * i))) = beTo h (i + 1) := by
  have hl : ((be8 h).take i).length = i := by simp [be8]; omega
  have hg : (be8 h)[i]'(by simp [be8]; exact hi) = UInt8.ofNat (h / 2 ^ (56 - 8 * i)) := by simp [be8]
  rw [beTo, List.set_append_right _ _ (by omega), hl, Nat.sub_self, beTo, List.take_succ_eq_append_getElem (by simp [be8]; exact hi), hg, List.append_assoc, show 8 - i = (8 - (i + 1)) + 1 by omega, List.replicate_succ, List.set_cons_zero]
  rfl
theorem beTo_8 (h : Nat) : beTo h 8 = be8 h := by
  rw [beTo, List.take_of_length_le (by simp [be8])]
  simp
set_option maxRecDepth 100000 in
set_option maxHeartbeats 8000000 in
theorem specName_any (s : ByteArray) (w : World) (hs : s.size ≤ 5000) :
    Calls Try.prog 6 #[.string s] w fun e w' => ∃ g, e = .returned (.slice (some ⟨g, 0, none⟩) 8 8) ∧ ByRow w' g (be8 (mur s.data.toList)) ∧ Below w.heap.size w w' := by
  have hcv := fun W : World => Lib.run_convert_string_bytes (P := Try.prog) W 9 23 5 s Try.underlying9 Try.underlying23 Try.underlying5
  have hc1 := grownCap_ge w s.size 0 5
  have hrd := (row_bytes w s).reads
  rw [show s.data.toList.length = s.size from Array.length_toList] at hrd
  have HM := Lib.hid (murmur_any (some ⟨w.heap.size, 0, none⟩) s.size (grownCap w s.size 0 5) _ s.data.toList (Lib.bytesWorld w 5 s) hrd hs hc1)
  have HW := Lib.hid (below_bytes w s)
  have hmk : ∀ W : World, (Instr.makeSlice 23 (.int .i64 8) (.int .i64 8)).run Try.prog W = .ok (.slice (some ⟨W.heap.size, 0, none⟩) 8 8) (W.alloc (.cells (madeCells #[.int .u8 0] 8) 5)) := fun W => run_make_one (P := Try.prog) 23 5 (.int .u8 0) 1 Try.underlying23 infoU8 rfl 8 (by omega) (by omega) W
  obtain ⟨Z, hZ⟩ : ∃ Z, madeCells #[.int .u8 0] 8 = Z := ⟨_, rfl⟩
  rw [hZ] at hmk
  obtain ⟨h, hh⟩ : ∃ h, mur s.data.toList = h := ⟨_, rfl⟩
  have HBR : ∀ W : World, Hid (ByRow (W.alloc (.cells Z 5)) W.heap.size (beTo h 0)) := fun W => by
    show ByRow _ _ _
    refine Blk.byRow (t := 5) ?_
    rw [show (u8s (beTo h 0)).toArray = Z by
      rw [← hZ]
      apply Array.toList_inj.1
      rw [madeCells_one]
      simp [u8s, beTo]]
    exact Blk.new W _ _
  have lh : (h : Int) < 18446744073709551616 := by have := mur_lt s.data.toList; rw [hh] at this; omega
  rw [hh] at HM ⊢
  clear hh hZ hrd
  go_enter Try.func6, Try.ntmps6
  go_wp2_with (first | (go_at_call 8; refine HM.out.mono ?_; clear HM; rintro e w1 ⟨rfl, rfl⟩; have HB1 := Lib.hid (below_alloc HW.out (.cells Z 5)); have HY1 := HBR (Lib.bytesWorld w 5 s)) | fail)
  have hwg : w.heap.size ≤ (Lib.bytesWorld w 5 s).heap.size := HW.out.size
  generalize (Lib.bytesWorld w 5 s).heap.size = g at HY1 hwg ⊢
  generalize (Lib.bytesWorld w 5 s).alloc (.cells Z 5) = w1 at HB1 HY1 ⊢
  go_loopw [12] (fun si wr => ∃ j : Nat, j ≤ 8 ∧ si = .int .i64 j ∧ Hid (ByRow wr g (beTo h j)) ∧ Hid (Below w.heap.size w wr)) (fun si _ => 8 - (intOf si).toNat)
  case atStart => exact ⟨0, Nat.zero_le _, rfl, HY1.out, HB1.out⟩
  case round =>
    obtain ⟨j, hj, rfl, HY, HB⟩ := hrel
    clear HY1 HB1
    by_cases hlt : j < 8
    · obtain ⟨c1, c2⟩ := HY.out.at_ j _ (beTo_at h j hlt)
      have HY2 : Hid (ByRow (wr.setCell ⟨g, j, none⟩ (.int .u8 ((UInt8.ofNat (h / 2 ^ (56 - 8 * j))).toNat : Int))) g (beTo h (j + 1))) := by
        show ByRow _ _ _
        rw [← beTo_set h j hlt]
        exact HY.out.set j _ (by rw [beTo_len h j hj]; exact hlt)
      have HB2 := Lib.hid (HB.out.setCell (p := ⟨g, j, none⟩) hwg (.int .u8 ((UInt8.ofNat (h / 2 ^ (56 - 8 * j))).toNat : Int)))
      have hv : ((UInt8.ofNat (h / 2 ^ (56 - 8 * j))).toNat : Int) = (h : Int) / 2 ^ (56 - 8 * j) % 256 := by
        rw [UInt8.toNat_ofNat', Int.natCast_emod, Int.natCast_ediv, Int.natCast_pow]
        rfl
      rw [hv] at HY2 HB2
      have g1 : (j : Int) < 8 := by omega
      have g2 : (8 : Int) * j ≤ 56 := by omega
      clear hv
      go_wp2
      refine ⟨⟨j + 1, by omega, by go_num, HY2.out, HB2.out⟩, by simp [intOf]; omega⟩
    · have hj8 : j = 8 := by omega
      have g1 : ¬ (j : Int) < 8 := by omega
      have HF : Hid (ByRow wr g (be8 h)) := by have h2 := HY.out; rw [hj8, beTo_8] at h2; exact h2
      clear hj8
      go_wp2
      go_ret
      exact ⟨g, rfl, HF.out, HB.out⟩
end Go.Proofs.Ytodffcoeimcdaaa
