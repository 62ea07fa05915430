/- What a row hands over of a slice of whole numbers: how it lies in memory, and that it is no longer than its weight allows. Plain theorems over the model's own laws. -/
import Derived.SizedLaws
import Derived.ChangeSlices
import Derived.Test.YtijbdinemjiepaaDoorMem
namespace Go.Proofs.YtijbdinemjiepaaDoor
open Go.ChangeShapes Go.WideShapes Go.RowKit
def IsRow (k : IntKind) (w : World) (a : Option Addr) (len cap : Nat) (zs : List Int) : Prop :=
  (a = none ∧ len = 0 ∧ cap = 0 ∧ zs = []) ∨
  ∃ x, a = some x ∧ len ≤ cap ∧ cap ≤ maxLen ∧ zs.length = cap ∧ (∀ i, i < zs.length → w.cell? (x.add i) = some (.int k (zs.getD i 0))) ∧ ∀ n ∈ zs, (Lit.int k n).wf = true
theorem sized_ints {H : Type} {enc : TypeId × Value → H} {P : Program} {W : World} {base : Nat} {spare : Nat → Bool} {held : Bool} {t e : TypeId} {k : IntKind} {a : Option Addr} {len cap : Nat} {d : DataW H} {ps : List MemPlace} {ts : List TypeId} {ds : List (DataW H)} {j : Nat}
    (hsz : (DataW.weightsEach P ts ds).all (· ≤ reachBytes) = true) (ht : ts[j]? = some t) (hd : ds[j]? = some d) (hu : P.underlying t = some (.slice e)) (he : P.underlying e = some (.int k)) (hc : P.cellsOf e = 1) {B : Nat} (hB : P.bytesOf e = B)
    (h : DataW.Trod enc P W base spare held t (.slice a len cap) d ps) : len * B ≤ 140737488351232 := by
  obtain ⟨fuel, hf⟩ := h
  rcases open_ints hu he hc hf with ⟨hcs, _⟩ | ⟨x, l, c, zs, hcs, _, hl, _, hz, hx, _, _⟩
  · simp [Value.cells] at hcs
    obtain ⟨rfl, rfl, rfl⟩ := hcs
    simp
  · simp [Value.cells] at hcs
    obtain ⟨rfl, rfl, rfl⟩ := hcs
    obtain ⟨hx, _⟩ := Prod.mk.inj hx
    subst hx
    have z := sized_slice hsz ht hd hu
    rw [hB] at z
    have hl2 : len ≤ zs.length := by
      rw [hz]
      split
      · exact hl
      · exact Nat.le_refl _
    have h1 : (lits (H := H) k (zs.take len)).length + (lits (H := H) k (zs.drop len)).length = zs.length := by
      simp [lits]
      omega
    rw [h1] at z
    exact Nat.le_trans (Nat.mul_le_mul_right _ hl2) z
/-- The row's slice, as this claim's contracts want it: it reads as its numbers, which are in their kind's range. -/
theorem isRow_reads {k : IntKind} {w : World} {a : Option Addr} {len cap : Nat} {zs : List Int} (h : IsRow k w a len cap zs) :
    len ≤ cap ∧ Reads w w.heap.size 1 a len ((zs.take len).map fun z => .int k z) ∧ (∀ z ∈ zs.take len, (Lit.int k z).wf = true) ∧ (zs.take len).length = len := by
  rcases h with ⟨rfl, rfl, rfl, rfl⟩ | ⟨x, rfl, hl, _, hz, hc, hwf⟩
  · exact ⟨Nat.le_refl _, by simpa using Reads.none_, by simp, rfl⟩
  · refine ⟨hl, ⟨by simp; omega, fun hn => ⟨x, rfl, ?_, fun j u hu => ?_⟩⟩, fun z hz' => hwf z (List.mem_of_mem_take hz'), by simp; omega⟩
    · have h0 := hc 0 (by omega)
      have := World.block_lt_of_cell? w _ h0
      rwa [block_of_add] at this
    · rw [List.getElem?_map] at hu
      obtain ⟨z, hz1, rfl⟩ := Option.map_eq_some_iff.1 hu
      rw [List.getElem?_take] at hz1
      split at hz1
      · have hj : j < zs.length := (List.getElem?_eq_some_iff.1 hz1).1
        rw [hc j hj]
        simp [List.getD_eq_getElem?_getD, hz1]
      · cases hz1
/-- Numbers of a byte's range are bytes. -/
theorem bytes_of {zs : List Int} (h : ∀ z ∈ zs, (Lit.int .u8 z).wf = true) : ∃ l : List UInt8, zs.map (fun z => Value.int .u8 z) = u8s l ∧ l.length = zs.length := by
  refine ⟨zs.map fun z => UInt8.ofNat z.toNat, ?_, by simp⟩
  simp only [u8s, List.map_map]
  refine List.map_congr_left fun z hz => ?_
  have hw := h z hz
  simp [Lit.wf, IntKind.min, IntKind.max, IntKind.signed, IntKind.bits] at hw
  have h1 : (UInt8.ofNat z.toNat).toNat = z.toNat := UInt8.toNat_ofNat_of_lt' (by show _ < 256; omega)
  simp only [Function.comp_apply, h1]
  congr 1
  omega
end Go.Proofs.YtijbdinemjiepaaDoor
