/- The thin package's PbEncoded. -/
import Derived.Test.YthgbhaackihbjaaDoorPbE
namespace Go.Proofs.YthgbhaackihbjaaDoor
open Go.RowKit

structure Small (x : PNd) : Prop where
  d : x.data.length ≤ 500
  k : x.links.length ≤ 20
  h : ∀ l ∈ x.links, l.hash.length ≤ 100
  n : ∀ l ∈ x.links, l.name.size ≤ 100
theorem small_of {x : PNd} (h : nodeSmall x = true) : Small x := by
  simp only [nodeSmall, linkSmall, Bool.and_eq_true, decide_eq_true_eq, List.all_eq_true] at h
  exact ⟨h.1.1, h.1.2, fun l hl => (h.2 l hl).1, fun l hl => (h.2 l hl).2⟩
theorem short_of {x : PNd} (h : Small x) : ShortN (mn x) := by
  refine ⟨fun y hy => ?_, by simp [mn, h.k], ?_⟩
  · obtain ⟨l, hl, rfl⟩ := List.mem_map.mp hy
    have h1 := h.h l hl
    have h2 := h.n l hl
    refine ⟨?_, ?_⟩
    · cases hh : l.hh <;> simp [ml, optBytes, hh, h1]
    · cases hh : l.hn
      · simp [ml, optBytes, nameB, hh]
      · have : l.name.data.toList.length = l.name.size := Array.length_toList
        simp only [ml, hh, nameB, optBytes, if_true, Option.map_some, Option.getD_some]
        omega
  · cases hh : x.has <;> simp [mn, optBytes, hh, h.d]
/-- The bytes of a node, their number and 'true' come back. -/
structure Encoded (w : World) (bs : List UInt8) (r : Ending) (w' : World) : Prop where
  ex : ∃ v, r = .returned (.tuple #[v, .int .i64 (bs.length : Nat), .bool true]) ∧ Wrote w bs v w'
set_option maxRecDepth 100000 in
theorem encoded_any (x : PNd) (v : Value) (B : Nat) (w : World) (hx : NodeArg w B x v) (hB : B ≤ w.heap.size) (hs : Small x) :
    Calls Tryd.prog 12 #[v] w (Encoded w (nodeBytes (mn x))) := by
  have hsn := short_of hs
  obtain ⟨A, n, c, A2, n2, c2, rfl, hrest⟩ := hx.ex
  have hbw := below_one w (.cells #[.bool x.has, .slice A n c, .slice A2 n2 c2] 28)
  have HN := Lib.hid (pbNode_any x _ B (w.alloc (.cells #[.bool x.has, .slice A n c, .slice A2 n2 c2] 28)) (hx.below (hbw.mono hB)) (by simp; omega) hs.d hs.k hs.h)
  have HS := Lib.hid hsn
  have HB := Lib.hid hbw
  clear hx hrest hsn hbw
  go_enter Tryd.func12, Tryd.ntmps12
  go_wp2_with (first | (go_at_call 23; refine HN.out.mono ?_; rintro e w2 ⟨⟨p, rfl, hobj⟩, hb2⟩; have HOBJ := Lib.hid hobj; have HB2 := Lib.hid hb2; clear hobj hb2) | (go_at_call 24; refine (marshal_any p _ w2.heap.size _ w2 HOBJ.out HS.out (Nat.le_refl _)).mono ?_; rintro e w3 ⟨vb, rfl, hw3⟩; have HW3 := Lib.hid hw3; clear hw3) | (go_at_call 25; refine (nodeSize_any p _ w2.heap.size _ w3 (HOBJ.out.below HW3.out.below) HS.out).mono ?_; rintro e w4 ⟨rfl, rfl⟩) | fail)
  go_ret3
  obtain ⟨⟨g, cc, h1, h2, h3, h4⟩, hb⟩ := HW3.out
  have hb3 := below_then HB.out (by simp) HB2.out
  exact ⟨⟨vb, rfl, ⟨g, cc, h1, h2, Nat.le_trans hb3.size h3, h4⟩, below_then hb3 hb3.size hb⟩⟩
end Go.Proofs.YthgbhaackihbjaaDoor
