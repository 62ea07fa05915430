/- The law FnPbRead in the form in which a row hands over its argument. -/
import Derived.Test.YthgbhaackihbjaaDoorPnE
import Derived.Test.YthgbhaackihbjaaDoorPnZ
import Derived.Test.YthgbhaackihbjaaDoorSized
namespace Go.Proofs.YthgbhaackihbjaaDoor
open Go.ChangeShapes Go.WideShapes Go.RowKit

theorem bytes_are {zs : List Int} (h : ∀ z ∈ zs, (Lit.int .u8 z).wf = true) : ∃ l : List UInt8, zs.map (fun z => Value.int .u8 z) = u8s l ∧ l.length = zs.length := by
  refine ⟨zs.map fun z => UInt8.ofNat z.toNat, ?_, by simp⟩
  simp only [u8s, List.map_map]
  refine List.map_congr_left fun z hz => ?_
  have hw := h z hz
  simp [Lit.wf, IntKind.min, IntKind.max, IntKind.signed, IntKind.bits] at hw
  have h1 : (UInt8.ofNat z.toNat).toNat = z.toNat := UInt8.toNat_ofNat_of_lt' (by show _ < 256; omega)
  simp only [Function.comp_apply, h1]
  congr 1
  omega
/-- A row of bytes reads as bytes. -/
theorem IsRow.reads {w : World} {A : Option Addr} {n c : Nat} {zs : List Int} (h : IsRow .u8 w A n c zs) : n ≤ c ∧ c ≤ 9223372036854775807 ∧ ∃ l : List UInt8, Reads w w.heap.size 1 A n (u8s l) := by
  rcases h with ⟨rfl, rfl, rfl, rfl⟩ | ⟨a, rfl, hl, hm, hz, hcell, hw⟩
  · exact ⟨Nat.le_refl _, by omega, [], Reads.none_⟩
  · refine ⟨hl, by unfold maxLen at hm; omega, ?_⟩
    obtain ⟨l, hl1, hl2⟩ := bytes_are (zs := zs.take n) fun z hz' => hw z (List.mem_of_mem_take hz')
    have hl3 : l.length = n := by rw [hl2, List.length_take]; omega
    refine ⟨l, by rw [u8s_length]; omega, fun hn => ⟨a, rfl, ?_, fun j u hu => ?_⟩⟩
    · have h0 := hcell 0 (by omega)
      have := World.block_lt_of_cell? w _ h0
      rwa [block_of_add] at this
    · rw [← hl1] at hu
      have hj : j < (zs.take n).length := by
        have := (List.getElem?_eq_some_iff.1 hu).1
        simpa using this
      rw [List.length_take] at hj
      rw [hcell j (by omega)]
      rw [List.getElem?_map, List.getElem?_take_of_lt (by omega), List.getElem?_eq_getElem (by omega)] at hu
      simp only [Option.map_some, Option.some.injEq] at hu
      rw [← hu]
      simp [List.getD, List.getElem?_eq_getElem (show j < zs.length by omega)]
theorem read_row (A : Option Addr) (n c : Nat) (zs : List Int) (W : World) (hr : IsRow .u8 W A n c zs) (hL : laidMetH Tryd.prog Rows.fnPbReadRow.laid W) :
    Calls Tryd.prog 3 #[.slice A n c] W fun e W' => e = .returned (.bool true) ∧ Below W.heap.size W W' := by
  obtain ⟨a0, a1, a2, he⟩ := errs_read hL
  obtain ⟨h1, h2, l, h3⟩ := hr.reads
  exact (pbRead_any A n c W.heap.size l W a0 a1 a2 h3 (Nat.le_refl _) h1 h2 he).mono fun e W' h => ⟨h.ret, h.below⟩
end Go.Proofs.YthgbhaackihbjaaDoor
