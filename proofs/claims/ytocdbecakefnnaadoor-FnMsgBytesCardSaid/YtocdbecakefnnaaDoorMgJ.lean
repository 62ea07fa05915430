/- spec.msgPiece, spec.msgFlag, spec.msgCounted. -/
import Derived.Test.YtocdbecakefnnaaDoorMgI
import Derived.Test.YtocdbecakefnnaaDoorIdC
namespace Go.Proofs.YtocdbecakefnnaaDoor
open Go.RowKit

/-- Fresh bytes come back. -/
structure Fresh (w : World) (bs : List UInt8) (r : Ending) (w' : World) : Prop where
  ex : ∃ v, r = .returned v ∧ w'.ownsRow w.heap.size 5 1 v bs.length (u8s bs)
  below : Below w.heap.size w w'
theorem cat3 {w W : World} {A1 A2 A3 : Option Addr} {c1 c2 c3 : Nat} (l1 l2 l3 L : List UInt8) (hw : Below w.heap.size w W) (hL : l1 ++ (l2 ++ l3) = L) (h1 : Reads W W.heap.size 1 A1 l1.length (u8s l1)) (h2 : Reads W W.heap.size 1 A2 l2.length (u8s l2)) (h3 : Reads W W.heap.size 1 A3 l3.length (u8s l3)) (k1 : l1.length ≤ c1) (k2 : l2.length ≤ c2) (k3 : l3.length ≤ c3) (hl : L.length ≤ 17592186044416) :
    Calls Tryd.prog 13 #[.slice (some ⟨W.heap.size, 0, none⟩) 3 3] (W.alloc (.cells #[.slice A1 l1.length c1, .slice A2 l2.length c2, .slice A3 l3.length c3] 32)) (Fresh w L) := by
  subst hL
  have hv := (((RowsB.nil W W.heap.size).cons h3 k3).cons h2 k2).cons h1 k1
  have hbo := below_one W (.cells #[.slice A1 l1.length c1, .slice A2 l2.length c2, .slice A3 l3.length c3] 32)
  have hr := reads_lit W 32 [.slice A1 l1.length c1, .slice A2 l2.length c2, .slice A3 l3.length c3]
  have he : [l1, l2, l3].flatten = l1 ++ (l2 ++ l3) := by simp
  refine (concat_u8 _ 3 3 (W.heap.size + 1) _ _ [l1, l2, l3] _ hr ((hv.below hbo).more (by omega)) rfl (by simp) (by omega) (by rw [he]; omega)).mono ?_
  rw [he]
  rintro e w' ⟨⟨v, rfl, ho⟩, hb'⟩
  have h6 := below_then hw hw.size hbo
  exact ⟨⟨v, rfl, own_more ho h6.size⟩, below_then h6 h6.size hb'⟩
set_option maxRecDepth 100000 in
theorem piece_any (key : UInt8) (l : List UInt8) (A : Option Addr) (c : Nat) (w : World) (hr : Reads w w.heap.size 1 A l.length (u8s l)) (hc : l.length ≤ c) (hl : l.length ≤ 1000000) :
    Calls Tryd.prog 23 #[.int .u8 (key.toNat : Int), .slice A l.length c] w (Fresh w (pieceB key l)) := by
  have HR := Lib.hid hr
  have hu := uv_le l.length (by omega)
  have HV : Hid (∀ W, Calls Tryd.prog 48 #[.int .u64 (l.length : Nat)] W (Owns W 5 1 (uv l.length).length (u8s (uv l.length)))) := Lib.hid (fun W => varint_any l.length W (by omega))
  have HL : Hid ([key] ++ (uv l.length ++ l) = pieceB key l) := Lib.hid rfl
  have HLL : Hid ((pieceB key l).length ≤ 17592186044416) := Lib.hid (by rw [pieceB_length]; omega)
  have HK := Lib.hid (reads_lit w 5 (u8s [key]))
  clear hr hu
  go_enter Tryd.func23, Tryd.ntmps23
  go_wp2_with (first
    | (go_at_call 48; go_must (refine (HV.out _).mono ?_; clear HV; rintro e w1 ⟨⟨v1, rfl, ho⟩, hb⟩; obtain ⟨A1, c1, rfl, hc1, hr1⟩ := own_shape ho; have HB1 := Lib.hid (below_then (below_one w _) (by simp) hb); have HK1 : Hid (Reads w1 w1.heap.size 1 (some ⟨w.heap.size, 0, none⟩) 1 (u8s [key])) := Lib.hid ((HK.out.below (hb.mono (by simp))).more (by have := hb.size; simpa using this)); have HR1 := Lib.hid hr1; clear ho hb hr1))
    | (go_at_call 13; go_must (refine (cat3 (w := w) [key] (uv l.length) l (pieceB key l) HB1.out HL.out HK1.out HR1.out ((HR.out.below HB1.out).more HB1.out.size) (Nat.le_refl 1) hc1 hc HLL.out).mono ?_; rintro e w2 ⟨⟨v2, rfl, ho⟩, hb⟩; have HO := Lib.hid ho; have HB2 := Lib.hid hb; clear ho hb))
    | fail)
  go_ret
  exact ⟨⟨_, rfl, HO.out⟩, HB2.out⟩
end Go.Proofs.YtocdbecakefnnaaDoor
