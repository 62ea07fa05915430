/- The thin package's FSOf: bytes of known fields, read as data. -/
import Derived.Test.YtijbnmmeecmbjaaDoorFrF
namespace Go.Proofs.YtijbnmmeecmbjaaDoor
open Go.RowKit

def zeroFS : Value := .agg #[.int .i64 0, .slice none 0 0, .int .u64 0, .slice none 0 0, .int .u64 0, .int .u64 0]
/-- What FSOf hands back. -/
def FsoIs (w : World) (o : Option FSt) (e : Ending) (w' : World) : Prop := Below w.heap.size w w' ∧ match o with
  | none => e = .returned (.tuple #[zeroFS, .bool false])
  | some st => ∃ A c A2 c2, e = .returned (.tuple #[fsOf (st.ty.getD 0) (.slice A st.data.length c) (toldSize st) (.slice A2 st.sizes.length c2) st.hash st.fan, .bool true]) ∧ Reads w' w'.heap.size 1 A st.data.length (u8s st.data) ∧ Reads w' w'.heap.size 1 A2 st.sizes.length (u64s st.sizes)
theorem NdIs.bad {w w' : World} {e : Ending} (h : NdIs w none e w') : Below w.heap.size w w' ∧ ∃ a, e = .returned (.tuple #[.pointer none, .iface 90 (.pointer (some a))]) := h
theorem NdIs.good {w w' : World} {e : Ending} {st : FSt} (h : NdIs w (some st) e w') : Below w.heap.size w w' ∧ ∃ b hf hv vt vd vz vb vh vf, e = .returned (.tuple #[.pointer (some ⟨b, 0, none⟩), .nilIface]) ∧ DRep w' 80 b hf hv st vt vd vz vb vh vf := h
theorem Reads.six_set {w : World} {B size n g : Nat} {A : Option Addr} {xs : List Value} (h : Reads w B size A n xs) (hg : ∀ ad, A = some ad → ad.block ≠ g) (v0 v1 v2 v3 v4 v5 : Value) :
    Reads ((((((w.setCell ⟨g, 0, none⟩ v0).setCell ⟨g, 1, none⟩ v1).setCell ⟨g, 2, none⟩ v2).setCell ⟨g, 3, none⟩ v3).setCell ⟨g, 4, none⟩ v4).setCell ⟨g, 5, none⟩ v5) B size A n xs :=
  ⟨h.1, fun hn => by
    obtain ⟨ad, e, hb, hc⟩ := h.2 hn
    have hne := hg ad e
    refine ⟨ad, e, hb, fun j u hu => ?_⟩
    have k : ∀ (W : World) (i : Nat) (v : Value), (W.setCell ⟨g, i, none⟩ v).cell? (ad.add j) = W.cell? (ad.add j) := fun W i v =>
      World.cell?_of_block (Below.heap_setCell W ⟨g, i, none⟩ v _ (by rw [block_of_add]; exact hne))
    rw [k, k, k, k, k, k]
    exact hc j u hu⟩
set_option maxRecDepth 100000 in
set_option maxHeartbeats 2000000 in
theorem fsof_bad {w : World} {A : Option Addr} {n c B : Nat} {l : List UInt8} {a0 a1 a2 a3 : Addr} (h : Ask0 w A n B l a0 a1 a2 a3) (hw : whole (ms l.length FSt.zero l) = none) :
    Calls Tryd.prog 24 #[.slice A n c] w (FsoIs w none) := by
  have HB0 := Lib.hid (below_one w (.cells #[.int .i64 0, .slice none 0 0, .int .u64 0, .slice none 0 0, .int .u64 0, .int .u64 0] 32))
  have HK0 := Lib.hid (Blk.new w 32 #[.int .i64 0, .slice none 0 0, .int .u64 0, .slice none 0 0, .int .u64 0, .int .u64 0])
  have hA := h.below HB0.out
  have HA := Lib.hid hA
  have HC := Lib.hid (clone_u8 A n c B (u8s l) _ hA.rd (u8s_one l) (Nat.le_trans h.few (by decide)) hA.lt)
  have HD : Hid (∀ W A' c', Asked W A' n c' W.heap.size l a0 a1 a2 a3 → Calls Tryd.prog 39 #[.slice A' n c'] W (NdIs W none)) := fun W A' c' hk => by
    have := nodeFrom_any hk
    rw [hw] at this
    exact this
  clear h hw hA
  go_enter Tryd.func24, Tryd.ntmps24
  go_wp2_with (first | (go_at_call 30; refine HC.out.mono ?_; clear HC; rintro e w1 ⟨⟨v1, rfl, ho1, -⟩, hb1⟩; obtain ⟨A1, c1, rfl, hc1, hc2, hr1⟩ := own_shape2 ho1; have HK := Lib.hid (HA.out.clone hb1 hr1 hc1 hc2); have HK1 := Lib.hid (HK0.out.below hb1 HK0.out.lt); have HB1 := Lib.hid (below_then HB0.out HB0.out.size hb1); clear ho1 hb1 hr1 hc1 hc2) | (go_at_call 39; refine ((HD.out _ _ _ HK.out).mono (fun e w2 hd => NdIs.bad hd)).mono ?_; clear HD; rintro e w2 ⟨hb2, a9, rfl⟩; have HK2 := Lib.hid (HK1.out.below hb2 HK1.out.lt); have HB2 := Lib.hid (below_then HB1.out HB1.out.size hb2); have q0 := HK2.out.cell 0; have q1 := HK2.out.cell 1; have q2 := HK2.out.cell 2; have q3 := HK2.out.cell 3; have q4 := HK2.out.cell 4; have q5 := HK2.out.cell 5; have qf := HK2.out.frozen; clear hb2) | fail)
  (try simp only [Exit.inBlock, Exit.then])
  refine bodyPost_ret (results_cell_then rfl _ _ _ _ _ _ _ rfl (six_set HK2.out (.int .i64 0) (.slice none 0 0) (.int .u64 0) (.slice none 0 0) (.int .u64 0) (.int .u64 0)) Tryd.underlying32 rfl (by kernel_rfl)) rfl ?_
  exact ⟨six_below HB2.out (Nat.le_refl _) _ _ _ _ _ _, rfl⟩
set_option maxRecDepth 100000 in
set_option maxHeartbeats 2000000 in
theorem fsof_good {w : World} {A : Option Addr} {n c B : Nat} {l : List UInt8} {a0 a1 a2 a3 : Addr} {st : FSt} (h : Ask0 w A n B l a0 a1 a2 a3) (hw : whole (ms l.length FSt.zero l) = some st) (hl : st.data.length ≤ 1000000) (hs : st.sizes.length ≤ 1000000) (ht : wrap64 (st.ty.getD 0) = st.ty.getD 0) :
    Calls Tryd.prog 24 #[.slice A n c] w (FsoIs w (some st)) := by
  have HB0 := Lib.hid (below_one w (.cells #[.int .i64 0, .slice none 0 0, .int .u64 0, .slice none 0 0, .int .u64 0, .int .u64 0] 32))
  have HK0 := Lib.hid (Blk.new w 32 #[.int .i64 0, .slice none 0 0, .int .u64 0, .slice none 0 0, .int .u64 0, .int .u64 0])
  have hA := h.below HB0.out
  have HA := Lib.hid hA
  have HC := Lib.hid (clone_u8 A n c B (u8s l) _ hA.rd (u8s_one l) (Nat.le_trans h.few (by decide)) hA.lt)
  have HD : Hid (∀ W A' c', Asked W A' n c' W.heap.size l a0 a1 a2 a3 → Calls Tryd.prog 39 #[.slice A' n c'] W (NdIs W (some st))) := fun W A' c' hk => by
    have := nodeFrom_any hk
    rw [hw] at this
    exact this
  have HP := Lib.hid (fun (W : World) (b hf hv : Nat) (vt vd vz vb vh vf : Value) hrep => plainFS_any (w := W) (T := 80) (b := b) (hf := hf) (hv := hv) (st := st) (vt := vt) (vd := vd) (vz := vz) (vb := vb) (vh := vh) (vf := vf) hrep hl hs ht)
  clear h hw hA ht
  go_enter Tryd.func24, Tryd.ntmps24
  go_wp2_with (first | (go_at_call 30; refine HC.out.mono ?_; clear HC; rintro e w1 ⟨⟨v1, rfl, ho1, -⟩, hb1⟩; obtain ⟨A1, c1, rfl, hc1, hc2, hr1⟩ := own_shape2 ho1; have HK := Lib.hid (HA.out.clone hb1 hr1 hc1 hc2); have HK1 := Lib.hid (HK0.out.below hb1 HK0.out.lt); have HB1 := Lib.hid (below_then HB0.out HB0.out.size hb1); clear ho1 hb1 hr1 hc1 hc2) | (go_at_call 39; refine ((HD.out _ _ _ HK.out).mono (fun e w2 hd => NdIs.good hd)).mono ?_; clear HD; rintro e w2 ⟨hb2, b, hf, hv, vt, vd, vz, vb, vh, vf, rfl, hrep⟩; have HREP := Lib.hid hrep; have HK2 := Lib.hid (HK1.out.below hb2 HK1.out.lt); have HB2 := Lib.hid (below_then HB1.out HB1.out.size hb2); clear hb2 hrep) | (go_at_call 40; refine (HP.out _ _ _ _ _ _ _ _ _ _ HREP.out).mono ?_; clear HP; rintro e w3 ⟨hb3, A3, c3, A4, c4, rfl, hr3, hr4, hx3, hx4⟩; have HK3 := Lib.hid (HK2.out.below hb3 HK2.out.lt); have HL2 := Lib.hid HK2.out.lt; have HB3 := Lib.hid (below_then HB2.out HB2.out.size hb3); have HR3 := Lib.hid hr3; have HR4 := Lib.hid hr4; have HX3 := Lib.hid hx3; have HX4 := Lib.hid hx4; have q0 := HK3.out.cell 0; have q1 := HK3.out.cell 1; have q2 := HK3.out.cell 2; have q3 := HK3.out.cell 3; have q4 := HK3.out.cell 4; have q5 := HK3.out.cell 5; have qf := HK3.out.frozen; simp only [fsOf]; clear hb3 hr3 hr4 hx3 hx4) | fail)
  (try simp only [Exit.inBlock, Exit.then])
  refine bodyPost_ret (results_cell_then rfl _ _ _ _ _ _ _ rfl (six_set HK3.out (.int .i64 (st.ty.getD 0)) (.slice A3 st.data.length c3) (.int .u64 ((toldSize st : Nat) : Int)) (.slice A4 st.sizes.length c4) (.int .u64 (st.hash : Int)) (.int .u64 (st.fan : Int))) Tryd.underlying32 rfl (by kernel_rfl)) rfl ?_
  refine ⟨six_below HB3.out (Nat.le_refl _) _ _ _ _ _ _, A3, c3, A4, c4, rfl, ?_, ?_⟩
  · have hz : ((((((w3.setCell ⟨w.heap.size, 0, none⟩ (.int .i64 (st.ty.getD 0))).setCell ⟨w.heap.size, 1, none⟩ (.slice A3 st.data.length c3)).setCell ⟨w.heap.size, 2, none⟩ (.int .u64 ((toldSize st : Nat) : Int))).setCell ⟨w.heap.size, 3, none⟩ (.slice A4 st.sizes.length c4)).setCell ⟨w.heap.size, 4, none⟩ (.int .u64 (st.hash : Int))).setCell ⟨w.heap.size, 5, none⟩ (.int .u64 (st.fan : Int))).heap.size = w3.heap.size := by simp [World.setCell]
    rw [hz]
    exact HR3.out.six_set (fun ad e => by have := HX3.out ad e; have := HL2.out; omega) _ _ _ _ _ _
  · have hz : ((((((w3.setCell ⟨w.heap.size, 0, none⟩ (.int .i64 (st.ty.getD 0))).setCell ⟨w.heap.size, 1, none⟩ (.slice A3 st.data.length c3)).setCell ⟨w.heap.size, 2, none⟩ (.int .u64 ((toldSize st : Nat) : Int))).setCell ⟨w.heap.size, 3, none⟩ (.slice A4 st.sizes.length c4)).setCell ⟨w.heap.size, 4, none⟩ (.int .u64 (st.hash : Int))).setCell ⟨w.heap.size, 5, none⟩ (.int .u64 (st.fan : Int))).heap.size = w3.heap.size := by simp [World.setCell]
    rw [hz]
    exact HR4.out.six_set (fun ad e => by have := HX4.out ad e; have := HL2.out; omega) _ _ _ _ _ _
end Go.Proofs.YtijbnmmeecmbjaaDoor
