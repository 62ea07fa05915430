/- A row of bytes that may be written, at the head of a block; a text turned to bytes. -/
import Derived.Lib.ConvBytes
import Derived.Test.YtijbdinemjiepaaB32S
namespace Go.Proofs.Ytijbdinemjiepaa
open Go.RowKit Go.Lib

/-- The bytes L stand at the head of block g, and may be written. -/
structure ByRow (w : World) (g : Nat) (L : List UInt8) : Prop where
  lt : g < w.heap.size
  at_ : ∀ (j : Nat) (x : UInt8), L[j]? = some x → w.cell? ⟨g, j, none⟩ = some (.int .u8 (x.toNat : Int)) ∧ w.frozen? ⟨g, j, none⟩ = false
theorem ByRow.set {w : World} {g : Nat} {L : List UInt8} (h : ByRow w g L) (j : Nat) (x : UInt8) (hj : j < L.length) : ByRow (w.setCell ⟨g, j, none⟩ (.int .u8 (x.toNat : Int))) g (L.set j x) := by
  refine ⟨by simpa [World.setCell] using h.lt, fun k y hk => ⟨?_, ?_⟩⟩
  · by_cases hkj : k = j
    · subst hkj
      rw [List.getElem?_set_self hj] at hk
      obtain rfl := Option.some.inj hk
      exact World.cell?_setCell_same' _ _ _ (by rw [(h.at_ k _ (List.getElem?_eq_getElem hj)).1]; rfl)
    · rw [List.getElem?_set_ne (fun e => hkj e.symm)] at hk
      rw [World.cell?_setCell_other _ (a := ⟨g, j, none⟩) (b := ⟨g, k, none⟩) (h := fun e => hkj (by injection e with _ e2; exact e2.symm))]
      exact (h.at_ k y hk).1
  · rw [World.frozen?_setCell]
    have hkl : k < L.length := by have := (List.getElem?_eq_some_iff.1 hk).1; rwa [List.length_set] at this
    exact (h.at_ k _ (List.getElem?_eq_getElem hkl)).2
theorem ByRow.drew {w : World} {g : Nat} {L : List UInt8} (h : ByRow w g L) : ByRow w.drew g L := ⟨h.lt, h.at_⟩
theorem ByRow.drewN {w : World} {g : Nat} {L : List UInt8} (h : ByRow w g L) (n : Nat) : ByRow (w.drewN n) g L := ⟨h.lt, h.at_⟩
theorem ByRow.below {w w' : World} {g : Nat} {L : List UInt8} (h : ByRow w g L) (hb : Below w.heap.size w w') : ByRow w' g L :=
  ⟨Nat.lt_of_lt_of_le h.lt hb.size, fun j x hx => ⟨(hb.cell h.lt).trans (h.at_ j x hx).1, (hb.frozen h.lt).trans (h.at_ j x hx).2⟩⟩
theorem ByRow.reads {w : World} {g : Nat} {L : List UInt8} (h : ByRow w g L) : Reads w w.heap.size 1 (some ⟨g, 0, none⟩) L.length (u8s L) := by
  refine ⟨by rw [u8s_length]; omega, fun _ => ⟨_, rfl, h.lt, fun j u hu => ?_⟩⟩
  have hj : j < L.length := by have := (List.getElem?_eq_some_iff.1 hu).1; rwa [u8s_length] at this
  rw [u8s_at _ _ hj] at hu
  rw [add_plain, Nat.zero_add, (h.at_ j _ (List.getElem?_eq_getElem hj)).1, hu]
theorem Blk.byRow {w : World} {g : Nat} {t : TypeId} {L : List UInt8} (h : Blk w g t (u8s L).toArray) : ByRow w g L :=
  ⟨h.lt, fun j x hx => ⟨by rw [h.cell]; have hj := (List.getElem?_eq_some_iff.1 hx).1; have e := (List.getElem?_eq_some_iff.1 hx).2; rw [List.getElem?_toArray, u8s_at _ _ hj, e], h.frozen j⟩⟩
theorem below_bytes (w : World) (s : ByteArray) : Below w.heap.size w (Lib.bytesWorld w 5 s) :=
  ⟨rfl, rfl, rfl, by rw [Lib.bytesWorld_size]; omega, fun k hk => Lib.bytesWorld_at_old w _ s k hk⟩
theorem row_bytes (w : World) (s : ByteArray) : ByRow (Lib.bytesWorld w 5 s) w.heap.size s.data.toList := by
  refine ⟨by rw [Lib.bytesWorld_size]; omega, fun j x hx => ?_⟩
  have hj : j < s.data.toList.length := (List.getElem?_eq_some_iff.1 hx).1
  have hs : s.data.toList.length = s.size := Array.length_toList
  refine ⟨?_, ?_⟩
  · rw [Lib.bytesWorld_cell w _ s j (by omega), List.getD_eq_getElem?_getD, hx]; rfl
  · have h := Lib.bytesWorld_at_new w 5 s
    have hc : j < (Lib.bytesCells w 5 s).size := by unfold Lib.bytesCells; rw [Array.size_append, Array.size_map]; have : s.data.size = s.size := rfl; omega
    simp [World.frozen?, h]
    omega
end Go.Proofs.Ytijbdinemjiepaa
