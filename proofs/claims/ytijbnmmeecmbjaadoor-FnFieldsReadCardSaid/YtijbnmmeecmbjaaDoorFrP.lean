/- The thin package's plainFS: what an FSNode tells, as data. -/
import Derived.Test.YtijbnmmeecmbjaaDoorFrG
namespace Go.Proofs.YtijbnmmeecmbjaaDoor
open Go.RowKit

/-- A struct FS by its parts. -/
def fsOf (t : Int) (vd : Value) (fs : Nat) (vb : Value) (h f : Nat) : Value := .agg #[.int .i64 t, vd, .int .u64 (fs : Int), vb, .int .u64 (h : Int), .int .u64 (f : Int)]
/-- The contents' size takes the file's size's place. -/
def toldSize (st : FSt) : Nat := (szOf (st.ty.getD 0) st.fsize st.data.length).getD 0
/-- What plainFS hands back. -/
def FsIs (w : World) (st : FSt) (e : Ending) (w' : World) : Prop := Below w.heap.size w w' ∧ ∃ A c A2 c2, e = .returned (fsOf (st.ty.getD 0) (.slice A st.data.length c) (toldSize st) (.slice A2 st.sizes.length c2) st.hash st.fan) ∧ Reads w' w'.heap.size 1 A st.data.length (u8s st.data) ∧ Reads w' w'.heap.size 1 A2 st.sizes.length (u64s st.sizes) ∧ (∀ ad, A = some ad → w.heap.size ≤ ad.block) ∧ (∀ ad, A2 = some ad → w.heap.size ≤ ad.block)
theorem u64s_one (l : List Nat) : ∀ u ∈ u64s l, u.oneCell' = true := by
  intro u hu
  obtain ⟨b, _, rfl⟩ := List.mem_map.1 hu
  rfl
set_option maxRecDepth 100000 in
set_option maxHeartbeats 2000000 in
theorem plainFS_any {w : World} {T : TypeId} {b hf hv : Nat} {st : FSt} {vt vd vz vb vh vf : Value} (h : DRep w T b hf hv st vt vd vz vb vh vf) (hl : st.data.length ≤ 1000000) (hs : st.sizes.length ≤ 1000000) (ht : wrap64 (st.ty.getD 0) = st.ty.getD 0) :
    Calls Tryd.prog 40 #[.pointer (some ⟨b, 0, none⟩)] w (FsIs w st) := by
  have HT := Lib.hid ht
  have HB0 := Lib.hid (below_one w (.cells #[.int .i64 0, .slice none 0 0, .int .u64 0, .slice none 0 0, .int .u64 0, .int .u64 0] 32))
  have HK0 := Lib.hid (Blk.new w 32 #[.int .i64 0, .slice none 0 0, .int .u64 0, .slice none 0 0, .int .u64 0, .int .u64 0])
  have HD0 := Lib.hid (h.alloc (.cells #[.int .i64 0, .slice none 0 0, .int .u64 0, .slice none 0 0, .int .u64 0, .int .u64 0] 32))
  obtain ⟨Ad, cd, hvd, -, -⟩ := own_shape h.data
  obtain ⟨Ab, cb, hvb, -, -⟩ := own_shape h.sizes
  have HTY := Lib.hid (nodeType_any HD0.out)
  have HND := Lib.hid (nodeData_any HD0.out)
  have HCD := Lib.hid (fun hr => clone_u8 Ad st.data.length cd (w.alloc (.cells #[.int .i64 0, .slice none 0 0, .int .u64 0, .slice none 0 0, .int .u64 0, .int .u64 0] 32)).heap.size (u8s st.data) (w.alloc (.cells #[.int .i64 0, .slice none 0 0, .int .u64 0, .slice none 0 0, .int .u64 0, .int .u64 0] 32)) hr (u8s_one _) (Nat.le_trans hl (by decide)) (Nat.le_refl _))
  subst hvd hvb
  have HRD := Lib.hid (Reads.of_own HD0.out.data)
  have HFS : Hid (∀ W, DRep W T b hf hv st vt (.slice Ad st.data.length cd) vz (.slice Ab st.sizes.length cb) vh vf → _) := fun W hd => nodeFileSize_any hd hl
  have HNB : Hid (∀ W, DRep W T b hf hv st vt (.slice Ad st.data.length cd) vz (.slice Ab st.sizes.length cb) vh vf → _) := fun W hd => nodeBlockSizes_any hd
  have HNH : Hid (∀ W, DRep W T b hf hv st vt (.slice Ad st.data.length cd) vz (.slice Ab st.sizes.length cb) vh vf → _) := fun W hd => nodeHashType_any hd
  have HNF : Hid (∀ W, DRep W T b hf hv st vt (.slice Ad st.data.length cd) vz (.slice Ab st.sizes.length cb) vh vf → _) := fun W hd => nodeFanout_any hd
  have HCB : Hid (∀ W : World, Reads W W.heap.size 1 Ab st.sizes.length (u64s st.sizes) → _) := fun W hr => clone_u64 Ab st.sizes.length cb W.heap.size (u64s st.sizes) W hr (u64s_one _) hs (Nat.le_refl _)
  clear h ht
  go_enter Tryd.func40, Tryd.ntmps40
  go_wp2_with (first | (go_at_call 47; refine HTY.out.mono ?_; clear HTY; rintro e w1 ⟨rfl, rfl⟩) | (go_at_call 48; refine HND.out.mono ?_; clear HND; rintro e w1 ⟨rfl, rfl⟩) | (go_at_call 30; refine (HCD.out HRD.out).mono ?_; clear HCD; rintro e w1 ⟨⟨v1, rfl, ho1, -⟩, hb1⟩; obtain ⟨A1, c1, rfl, -, hr1⟩ := own_shape ho1; have HD1 := Lib.hid (HD0.out.below hb1); have HK1 := Lib.hid (HK0.out.below hb1 HK0.out.lt); have HB1 := Lib.hid (below_then HB0.out HB0.out.size hb1); have HO1 := Lib.hid ho1; clear ho1 hb1 hr1) | (go_at_call 49; refine (HFS.out _ HD1.out).mono ?_; clear HFS; rintro e w2 ⟨rfl, hb2⟩; have HD2 := Lib.hid (HD1.out.below hb2); have HK2 := Lib.hid (HK1.out.below hb2 HK1.out.lt); have HB2 := Lib.hid (below_then HB1.out HB1.out.size hb2); have HO2 := Lib.hid (own_below HO1.out hb2); clear hb2) | (go_at_call 51; refine (HNB.out _ HD2.out).mono ?_; clear HNB; rintro e w3 ⟨rfl, rfl⟩) | (go_at_call 50; refine (HCB.out _ (Reads.of_own HD2.out.sizes)).mono ?_; clear HCB; rintro e w4 ⟨⟨v4, rfl, ho4, -⟩, hb4⟩; obtain ⟨A4, c4, rfl, -, hr4⟩ := own_shape ho4; have HD4 := Lib.hid (HD2.out.below hb4); have HK4 := Lib.hid (HK2.out.below hb4 HK2.out.lt); have HB4 := Lib.hid (below_then HB2.out HB2.out.size hb4); have HO4 := Lib.hid ho4; have HO24 := Lib.hid (own_below HO2.out hb4); have q0 := HK4.out.cell 0; have q1 := HK4.out.cell 1; have q2 := HK4.out.cell 2; have q3 := HK4.out.cell 3; have q4 := HK4.out.cell 4; have q5 := HK4.out.cell 5; have qf := HK4.out.frozen; clear ho4 hb4 hr4) | (go_at_call 52; refine (HNH.out _ HD4.out).mono ?_; clear HNH; rintro e w5 ⟨rfl, rfl⟩) | (go_at_call 53; refine (HNF.out _ HD4.out).mono ?_; clear HNF; rintro e w5 ⟨rfl, rfl⟩) | fail)
  rw [HT.out]
  (try simp only [Exit.inBlock, Exit.then])
  refine bodyPost_ret (results_cell_row rfl _ _ _ _ _ _ _ rfl (six_set HK4.out (.int .i64 (st.ty.getD 0)) (.slice A1 st.data.length c1) (.int .u64 (((szOf (st.ty.getD 0) st.fsize st.data.length).getD 0 : Nat) : Int)) (.slice A4 st.sizes.length c4) (.int .u64 (st.hash : Int)) (.int .u64 (st.fan : Int))) Tryd.underlying32 rfl (by kernel_rfl)) rfl ?_
  refine ⟨six_below HB4.out (Nat.le_refl _) _ _ _ _ _ _, A1, c1, A4, c4, rfl, Reads.of_own (own_six HO24.out (fun e => ?_) _ _ _ _ _ _), Reads.of_own (own_six HO4.out (fun e => ?_) _ _ _ _ _ _), fun ad e => ?_, fun ad e => ?_⟩
  · have h1 := own_base HO24.out _ e
    rw [World.size_alloc] at h1
    omega
  · have h1 := own_base HO4.out _ e
    have h2 := HK2.out.lt
    omega
  · have h1 := own_base HO24.out ad.block (by rw [e]; rfl)
    rw [World.size_alloc] at h1
    omega
  · have h1 := own_base HO4.out ad.block (by rw [e]; rfl)
    have h2 := HK2.out.lt
    omega
end Go.Proofs.YtijbnmmeecmbjaaDoor
