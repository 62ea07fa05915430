/- impl.pbCid. -/
import Derived.Test.YtocdbecakefnnaaDoorMsM
import Derived.Test.YtocdbecakefnnaaDoorStd
namespace Go.Proofs.YtocdbecakefnnaaDoor
open Go.RowKit

/-- Bytes that the package reads as an identifier, which is they. -/
structure Castable (l : List UInt8) : Prop where
  cast : ∀ (b o c B : Nat) (W : World), Reads W B 1 (some ⟨b, o, none⟩) l.length (u8s l) → l.length ≤ c → B ≤ W.heap.size → Calls Tryd.prog 55 #[.slice (some ⟨b, o, none⟩) l.length c] W fun e w' => e = .returned (.tuple #[.agg #[.string ⟨l.toArray⟩], .nilIface]) ∧ Below W.heap.size W w'
  pos : 0 < l.length
  len : l.length ≤ 1000
theorem castable_id (n : Nat) : Castable (identB n) :=
  ⟨fun b o c B W h hc hB => castId_any n b o c B W h hc hB, by have := identB_length n; omega, by have := identB_length n; omega⟩
theorem infoPbC : (Tryd.prog.info? 94).map (fun i => (i.zero, i.size, i.bytes)) = some (some (.agg #[.string ByteArray.empty]), 1, 16) := by kernel_rfl
set_option maxRecDepth 100000 in
set_option maxHeartbeats 4000000 in
theorem pbCid_any (l : List UInt8) (hl : Castable l) (A : Option Addr) (c : Nat) (w : World) (hr : Reads w w.heap.size 1 A l.length (u8s l)) :
    Calls Tryd.prog 42 #[.slice A l.length c] w fun e w' => e = .returned (.tuple #[.agg #[.string ⟨l.toArray⟩], .bool true]) ∧ Below w.heap.size w w' := by
  have hpos := hl.pos
  have hlen := hl.len
  have HCL := Lib.hid (clone_u8 A l.length c _ (u8s l) _ (ron hr (below_one w (.cells #[.string ⟨#[]⟩] 94))) (u8s_one l) (by omega) (Nat.le_refl _))
  have HCA := Lib.hid hl.cast
  have HB0 := Lib.hid (below_one w (.cells #[.string ⟨#[]⟩] 94))
  have HK0 := Lib.hid (Blk.new w 94 #[.string ⟨#[]⟩])
  have g0 : ¬ ((l.length : Nat) : Int) = 0 := by omega
  have g1 : ¬ l.length = 0 := by omega
  clear hr
  go_enter Tryd.func42, Tryd.ntmps42
  go_wp2_with (first
    | (go_at_call 29; (with_reducible refine HCL.out.mono ?_); clear HCL; rintro e wa ⟨⟨v, rfl, ho, _⟩, hb⟩; obtain ⟨ba, ca, rfl, hca, _, _⟩ := own_form ho hpos; have HRA := Lib.hid (Reads.of_own ho); have HB1 := Lib.hid (below_then HB0.out HB0.out.size hb); have HK1 := Lib.hid (HK0.out.below hb HK0.out.lt); clear ho hb)
    | (go_at_call 55; (with_reducible refine (HCA.out _ _ _ _ _ HRA.out hca (Nat.le_refl _)).mono ?_); clear HCA; rintro e wb ⟨rfl, hb⟩; have HB2 := Lib.hid (below_alloc (below_then HB1.out HB1.out.size hb) (.cells #[.string ⟨l.toArray⟩] 92)); have hk := HK1.out.below hb HK1.out.lt; have k0 : wb.cell? ⟨w.heap.size, 0, none⟩ = some (.string ⟨#[]⟩) := hk.cell 0; have f0 : wb.frozen? ⟨w.heap.size, 0, none⟩ = false := hk.frozen 0; have l0 : w.heap.size < wb.heap.size := hk.lt; have HK2 := Lib.hid (((hk.set_ 0 (.string ⟨l.toArray⟩)).alloc (.cells #[.string ⟨l.toArray⟩] 92)).drew); have HB3 := Lib.hid ((below_alloc ((below_then HB1.out HB1.out.size hb).setCell (p := ⟨w.heap.size, 0, none⟩) (Nat.le_refl _) (.string ⟨l.toArray⟩)) (.cells #[.string ⟨l.toArray⟩] 92)).drew); clear hb hk)
    | fail)
  go_region
  go_wp2
  (try simp only [Exit.inBlock, Exit.then])
  refine bodyPost_ret (results_cell_then rfl _ _ _ _ _ _ _ rfl HK2.out Tryd.underlying94 rfl (by kernel_rfl)) rfl ?_
  exact ⟨rfl, HB3.out⟩
end Go.Proofs.YtocdbecakefnnaaDoor
