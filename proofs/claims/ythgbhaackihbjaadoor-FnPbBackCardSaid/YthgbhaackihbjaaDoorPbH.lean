/- The law's fixed example. -/
import Derived.Test.YthgbhaackihbjaaDoorPbG
import Derived.Lib.SlBytesConst
namespace Go.Proofs.YthgbhaackihbjaaDoor
open Go.RowKit

def awake : PNd := ⟨true, [97], []⟩
theorem awake_bytes : nodeBytes (mn awake) = [10, 1, 97] := by
  show linksBytes [] ++ fieldB 10 [97] = _
  rw [fieldB, show ([97] : List UInt8).length = 1 from rfl, uv_small (by decide)]
  rfl
theorem awake_small : Small awake := ⟨by decide, by decide, fun l h => (by cases h), fun l h => (by cases h)⟩
theorem reads_marked (w : World) (e : TypeId) : Reads (w.alloc (.cells #[.int .u8 97] e (1, 2))) (w.heap.size + 1) 1 (some ⟨w.heap.size, 0, none⟩) 1 (u8s [97]) :=
  ⟨rfl, fun _ => ⟨⟨w.heap.size, 0, none⟩, rfl, Nat.lt_succ_self _, fun j u hu => by
    rw [add_plain, cell_of_row _ w.heap.size (0 + j) #[.int .u8 97] e (1, 2) (heap_alloc_new w _), Nat.zero_add, show (#[.int .u8 97] : Array Value) = (u8s [97]).toArray from rfl, List.getElem?_toArray]
    exact hu⟩⟩
set_option maxRecDepth 100000 in
theorem awake_any (w : World) : Calls Tryd.prog 6 #[] w (Ans w true) := by
  have hcv := Go.Lib.run_convert_bytes_const (P := Tryd.prog) w 22 5 #[.int .u8 97] 1 1 Tryd.underlying22 Tryd.underlying5
  go_enter Tryd.func6, Tryd.ntmps6
  have harg : NodeArg (w.alloc (.cells #[.int .u8 97] 5 (1, 2))) (w.heap.size + 1) awake (.agg #[.bool true, .slice (some ⟨w.heap.size, 0, none⟩) 1 1, .slice none 0 0]) :=
    ⟨some ⟨w.heap.size, 0, none⟩, 1, 1, none, 0, 0, rfl, by decide, by decide, reads_marked w 5, by decide, rfl, by decide, fun h => absurd h (by decide)⟩
  have HE := Lib.hid (encoded_any awake _ _ (w.alloc (.cells #[.int .u8 97] 5 (1, 2))) harg (by simp) awake_small)
  clear harg
  rw [awake_bytes] at HE
  go_wp2_with (first | (go_at_call 12; refine HE.out.mono ?_; rintro e w2 ⟨vb, rfl, ⟨g, c, rfl, h1, h2, h3⟩, hb⟩; have HR := Lib.hid h3; have HB := Lib.hid hb; clear h3 hb) | (go_at_call 16; refine (sameBytes_any _ _ _ _ _ _ w2.heap.size (w2.heap.size + 1) [10, 1, 97] [10, 1, 97] _ ?_ ?_).mono ?_; (exact HR.out.alloc (Nat.le_refl _) _); (exact reads_lit w2 5 [.int .u8 10, .int .u8 1, .int .u8 97]); rintro e w3 ⟨rfl, rfl⟩) | fail)
  go_ret
  exact ⟨rfl, below_alloc (below_then (below_one _ _) (by simp) HB.out) _⟩
end Go.Proofs.YthgbhaackihbjaaDoor
