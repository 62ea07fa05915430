/- gobase32: NewEncodingCI, WithPadding, RawStdEncoding. -/
import Derived.Test.YtijbdinemjiepaaB32T
namespace Go.Proofs.Ytijbdinemjiepaa
open Go.RowKit Go.Lib

def fill (k : Nat) : Nat → Nat := fun i => if i < k then 255 else 0
theorem fill_upd (k : Nat) : upd (fill k) k 255 = fill (k + 1) := by
  funext i
  unfold upd fill
  by_cases h : i = k
  · rw [if_pos h, if_pos (by omega)]
  · rw [if_neg h]
    by_cases h2 : i < k
    · rw [if_pos h2, if_pos (by omega)]
    · rw [if_neg h2, if_neg (by omega)]
/-- The table behind k letters. -/
def dm (s : ByteArray) : Nat → Nat → Nat
  | 0 => fun _ => 255
  | k + 1 => upd (upd (dm s k) (lowerN ((s.data.toList[k]?).getD 0).toNat) k) (upperN ((s.data.toList[k]?).getD 0).toNat) k
theorem fill_dm (s : ByteArray) (pad : Int) : encCells s (fill 256) pad = encCells s (dm s 0) pad := enc_congr s pad fun i h => by simp [fill, dm, h]
theorem data_at (s : ByteArray) (i : Nat) (h : i < s.size) : s.data.toList[i]? = some s[i] := by
  have h1 : i < s.data.toList.length := by rw [← size_eq]; exact h
  rw [List.getElem?_eq_getElem h1]
  rfl
theorem byte_at (s : ByteArray) (i : Nat) (h : i < s.size) : ∃ x : UInt8, s[i]'h = x ∧ (s.data.toList[i]?).getD 0 = x := by
  refine ⟨s[i], rfl, ?_⟩
  rw [show s.data.toList[i]? = some s[i] from data_at s i h]
  rfl
theorem lowerN_lt {c : Nat} (h : c < 256) : lowerN c < 256 := by unfold lowerN; split <;> omega
theorem upperN_lt {c : Nat} (h : c < 256) : upperN c < 256 := by unfold upperN; split <;> omega
set_option maxRecDepth 100000 in
set_option maxHeartbeats 4000000 in
theorem newEnc_any (s : ByteArray) (w : World) (hs : s.size ≤ 255) :
    Calls Try.prog 30 #[.string s] w fun e w' => e = .returned (.pointer (some ⟨w.heap.size, 0, none⟩)) ∧ Below w.heap.size w w' ∧ Blk w' w.heap.size 60 (encCells s (dm s s.size) 61) := by
  obtain ⟨hzv, hzs⟩ := zero_of_info zero_enc
  obtain ⟨C, hC⟩ : ∃ C, encCells ByteArray.empty (fun _ => 0) 0 = C := ⟨_, rfl⟩
  rw [hC] at hzv
  have HC := Lib.hid hC
  have c0 : C[0]? = some (.string ByteArray.empty) := by rw [← hC]; exact enc_0 _ _ _
  have c1 : C[257]? = some (.int .i32 0) := by rw [← hC]; exact enc_pad _ _ _
  clear hC hzs
  go_enter Try.func30, Try.ntmps30
  go_wp2
  go_loopw [4] (fun i wr => ∃ j : Nat, j ≤ 256 ∧ i = .int .i64 j ∧ Hid (Blk wr w.heap.size 60 (encCells s (fill j) 61)) ∧ Hid (Below w.heap.size w wr)) (fun i _ => 256 - (intOf i).toNat)
  case atStart =>
    have e : (C.setIfInBounds 257 (.int .i32 61)).setIfInBounds 0 (.string s) = encCells s (fill 0) 61 := by
      rw [← HC.out, enc_setpad, enc_setstr]
      exact enc_congr _ _ fun i _ => by simp [fill]
    refine ⟨0, Nat.zero_le _, rfl, ?_, ?_⟩
    · show Blk _ _ _ _
      rw [← e]
      first | exact Blk.new _ _ _ | exact ((Blk.new w _ C).set_ 257 _).set_ 0 _
    · show Below _ _ _
      first | exact below_one _ _ | exact ((below_one w _).set_far _ _).set_far _ _
  case round =>
    obtain ⟨j, hj, rfl, HB, HW⟩ := hrel
    by_cases hlt : j < 256
    · have k1 : wr.cell? ⟨w.heap.size, j + 1, none⟩ = some (.int .u8 0) := by rw [HB.out.cell, enc_at _ _ _ _ hlt, fill, if_neg (by omega)]; rfl
      have k2 : wr.frozen? ⟨w.heap.size, j + 1, none⟩ = false := HB.out.frozen _
      have k3 : wr.cell? ⟨w.heap.size, 1 + j, none⟩ = some (.int .u8 0) := by rw [Nat.add_comm]; exact k1
      have k4 : wr.frozen? ⟨w.heap.size, 1 + j, none⟩ = false := HB.out.frozen _
      have g1 : (j : Int) < 256 := by omega
      go_wp2
      go_roundw
      case rel => exact ⟨j + 1, by omega, by go_num, by show Blk _ _ _ _; rw [← fill_upd, ← enc_set s (fill j) 61 j 255 hlt, Nat.add_comm]; exact HB.out.set_ _ _, HW.out.setCell (Nat.le_refl _) _⟩
      case measure => simp [intOf]; omega
    · have hje : j = 256 := by omega
      have g0 : ¬ (j : Int) < 256 := by omega
      have HB1 : Hid (Blk wr w.heap.size 60 (encCells s (dm s 0) 61)) := by have h := HB.out; rw [hje, fill_dm] at h; exact h
      have hss : s.size ≤ 255 := hs
      clear HB HC c0 c1 hzv hje hlt
      go_wp2
      go_loopw [5] (fun i wx => ∃ j : Nat, j ≤ s.size ∧ i = .int .i64 j ∧ Hid (Blk wx w.heap.size 60 (encCells s (dm s j) 61)) ∧ Hid (Below w.heap.size w wx)) (fun i _ => s.size - (intOf i).toNat)
      case atStart => exact ⟨0, Nat.zero_le _, rfl, HB1.out, HW.out⟩
      case round =>
        obtain ⟨j, hj, rfl, HB, HV⟩ := hrel
        clear HB1 HW
        by_cases hlt : j < s.size
        · obtain ⟨x, hx, hxl⟩ := byte_at s j hlt
          have HXL := Lib.hid hxl
          have hx8 : x.toNat < 256 := UInt8.toNat_lt _
          obtain ⟨a, ha⟩ : ∃ a, lowerN x.toNat = a := ⟨_, rfl⟩
          obtain ⟨b, hb⟩ : ∃ b, upperN x.toNat = b := ⟨_, rfl⟩
          have ha8 : a < 256 := by rw [← ha]; exact lowerN_lt hx8
          have hb8 : b < 256 := by rw [← hb]; exact upperN_lt hx8
          have k1 : wr.cell? ⟨w.heap.size, 1 + a, none⟩ = some (.int .u8 (dm s j a : Nat)) := by rw [Nat.add_comm, HB.out.cell, enc_at _ _ _ _ ha8]
          have k2 : wr.frozen? ⟨w.heap.size, 1 + a, none⟩ = false := HB.out.frozen _
          have g1 : (j : Int) < (s.size : Int) := by omega
          have g2 : IntKind.u8.wrap (j : Int) = (j : Int) := IntWalk.u8_in _ ⟨by omega, by omega⟩
          have g3 : (a : Int) < 256 := by omega
          have g4 : (b : Int) < 256 := by omega
          have HA := Lib.hid ha
          have HB2 := Lib.hid hb
          clear hxl ha hb
          go_wp2_with fail
          go_region_law (first | (go_simp; go_at_call 40; refine (lower_any x.toNat _ hx8).mono ?_; rw [HA.out]; rintro e w2 ⟨rfl, rfl⟩) | fail)
          go_wp2_with fail
          have HB3 := Lib.hid ((HB.out.set_ (1 + a) (.int .u8 (j : Nat))).drew)
          have HV3 := Lib.hid ((HV.out.setCell (p := ⟨w.heap.size, 1 + a, none⟩) (Nat.le_refl _) (.int .u8 (j : Nat))).drew)
          generalize (wr.setCell ⟨w.heap.size, 1 + a, none⟩ (.int .u8 (j : Nat))).drew = wz at *
          have HB4 : Hid (Blk wz w.heap.size 60 (encCells s (upd (dm s j) a j) 61)) := by show Blk _ _ _ _; rw [← enc_set s (dm s j) 61 a j ha8, Nat.add_comm]; exact HB3.out
          have k3 : wz.cell? ⟨w.heap.size, 1 + b, none⟩ = some (.int .u8 (upd (dm s j) a j b : Nat)) := by rw [Nat.add_comm, HB4.out.cell, enc_at _ _ _ _ hb8]
          have k4 : wz.frozen? ⟨w.heap.size, 1 + b, none⟩ = false := HB4.out.frozen _
          clear k1 k2 HB HV HB3
          go_region_law (first | (go_simp; go_at_call 41; refine (upper_any x.toNat _ hx8).mono ?_; rw [HB2.out]; rintro e w2 ⟨rfl, rfl⟩) | fail)
          have HB5 : Hid (Blk (wz.setCell ⟨w.heap.size, 1 + b, none⟩ (.int .u8 (j : Nat))).drew w.heap.size 60 (encCells s (dm s (j + 1)) 61)) := by
            show Blk _ _ _ _
            rw [show dm s (j + 1) = upd (upd (dm s j) a j) b j by rw [dm, HXL.out, HA.out, HB2.out], ← enc_set s (upd (dm s j) a j) 61 b j hb8, Nat.add_comm b 1]
            exact (HB4.out.set_ _ _).drew
          have HV5 := Lib.hid ((HV3.out.setCell (p := ⟨w.heap.size, 1 + b, none⟩) (Nat.le_refl _) (.int .u8 (j : Nat))).drew)
          clear k3 k4 HB4 HV3
          go_wp2
          go_roundw
          case rel => exact ⟨j + 1, by omega, by go_num, HB5.out, HV5.out⟩
          case measure => simp [intOf]; omega
        · obtain rfl : j = s.size := by omega
          go_wp2
          go_ret
          exact ⟨rfl, HV.out, HB.out⟩
set_option maxRecDepth 100000 in
set_option maxHeartbeats 4000000 in
theorem withPad_any (s : ByteArray) (f : Nat → Nat) (p : Int) (w : World) :
    Calls Try.prog 31 #[.agg (encCells s f p), .int .i32 (-1)] w fun e w' => e = .returned (.pointer (some ⟨w.heap.size, 0, none⟩)) ∧ Below w.heap.size w w' ∧ Blk w' w.heap.size 60 (encCells s f (-1)) := by
  have c1 : (encCells s f p)[257]? = some (.int .i32 p) := enc_pad s f p
  have HS := Lib.hid (enc_setpad s f p (-1))
  generalize encCells s f p = C at *
  go_enter Try.func31, Try.ntmps31
  go_wp2
  go_ret
  refine ⟨rfl, ?_, ?_⟩
  · first | exact below_one _ _ | exact (below_one _ _).setCell (Nat.le_refl _) _
  · rw [← HS.out]
    first | exact Blk.new _ _ _ | exact (Blk.new w _ C).set_ 257 _
/-- Where an encoding lies. -/
def EncAt (w : World) (p : Nat) : Prop := Blk w p 60 (encCells abc (dm abc 32) (-1))
set_option maxRecDepth 100000 in
set_option maxHeartbeats 4000000 in
theorem rawStd_any (w : World) :
    Calls Try.prog 23 #[] w fun e w' => (∃ p, e = .returned (.pointer (some ⟨p, 0, none⟩)) ∧ w.heap.size ≤ p ∧ EncAt w' p) ∧ Below w.heap.size w w' := by
  have HN := Lib.hid (newEnc_any abc w (by decide))
  go_enter Try.func23, Try.ntmps23
  go_wp2_with (first | (go_at_call 30; refine HN.out.mono ?_; rintro e w1 ⟨rfl, hb1, hk1⟩; have HB1 := Lib.hid hb1; have HK1 := Lib.hid hk1; clear hb1 hk1) | fail)
  refine wp_load_mid 60 (.tmp 2) rfl w.heap.size 0 rfl (encRow abc (dm abc abc.size) 61) _ (fun j v hv => by rw [Nat.zero_add, HK1.out.cell]; simpa [encCells] using hv) Try.underlying60 rfl (by rw [encRow_length]; exact (zero_of_info zero_enc).2) ?_
  have HP := Lib.hid (withPad_any abc (dm abc abc.size) 61 w1)
  change Hid (Calls _ _ #[.agg (encRow abc (dm abc abc.size) 61).toArray, _] _ _) at HP
  generalize (encRow abc (dm abc abc.size) 61).toArray = C at *
  go_wp2_with (first | (go_at_call 31; refine HP.out.mono ?_; rintro e w2 ⟨rfl, hb2, hk2⟩; have HB2 := Lib.hid hb2; have HK2 := Lib.hid hk2; clear hb2 hk2) | fail)
  go_ret
  exact ⟨⟨_, rfl, HB1.out.size, HK2.out⟩, below_then HB1.out HB1.out.size HB2.out⟩
end Go.Proofs.Ytijbdinemjiepaa
