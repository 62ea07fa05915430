/- gobase32: decodeInPlace, DecodeString; dshelp.BinaryFromDsKey, impl.KeyBytes. -/
import Derived.Test.YtijbdinemjiepaaB32J
namespace Go.Proofs.Ytijbdinemjiepaa
open Go.RowKit Go.Lib

theorem letter_line (k : Nat) (hk : k < 32) : (letter k).toNat ≠ 10 ∧ (letter k).toNat ≠ 13 ∧ (letter k).toNat < 256 := (show ∀ k, k < 32 → (letter k).toNat ≠ 10 ∧ (letter k).toNat ≠ 13 ∧ (letter k).toNat < 256 by decide) k hk
theorem ByRow.same {w : World} {g : Nat} {L : List UInt8} {j : Nat} {x : UInt8} (h : ByRow w g L) (hx : L[j]? = some x) : ByRow (w.setCell ⟨g, j, none⟩ (.int .u8 (x.toNat : Int))) g L := by
  have hj := (List.getElem?_eq_some_iff.1 hx).1
  have h1 := h.set j x hj
  rwa [show L.set j x = L from by rw [← (List.getElem?_eq_some_iff.1 hx).2, List.set_getElem_self]] at h1
set_option maxRecDepth 100000 in
set_option maxHeartbeats 4000000 in
theorem inPlace_any (p g m cs : Nat) (l : List UInt8) (w : World) (he : EncAt w p) (hp : p ≠ g) (hL : ByRow w g ((enc5 l).map letter)) (hm : m = (enc5 l).length) (hm2 : m ≤ 2000) (hms : m ≤ cs) (hcs : cs ≤ 9223372036854775807) :
    Calls Try.prog 32 #[.pointer (some ⟨p, 0, none⟩), .slice (some ⟨g, 0, none⟩) m cs] w fun e w' => e = .returned (.tuple #[.int .i64 l.length, .nilIface]) ∧ w.grownBy w' (some g) ∧ ∃ X', ByRow w' g X' ∧ X'.length = m ∧ X'.take l.length = l := by
  have HE := Lib.hid he
  have hpw : p < w.heap.size := Blk.lt he
  have HL := Lib.hid hL
  have HM := Lib.hid hm
  clear he hL hm
  go_enter Try.func32, Try.ntmps32
  go_wp2
  go_loopw [6, 11] (fun so si wr => ∃ j : Nat, j ≤ m ∧ so = .int .i64 j ∧ si = .int .i64 j ∧ Hid (ByRow wr g ((enc5 l).map letter)) ∧ Hid (w.grownBy wr (some g))) (fun _ si _ => m - (intOf si).toNat)
  case atStart => exact ⟨0, Nat.zero_le _, rfl, rfl, HL.out, World.grownBy.refl _ _⟩
  case round =>
    obtain ⟨j, hj, rfl, rfl, HX, HO⟩ := hrel
    by_cases hlt : j < m
    · have hjl : j < (enc5 l).length := by have := HM.out; omega
      have hk32 := enc5_lt l _ (List.getElem_mem hjl)
      have hkj := List.getElem?_eq_getElem hjl
      generalize (enc5 l)[j]'hjl = kk at hk32 hkj
      have hxe : ((enc5 l).map letter)[j]? = some (letter kk) := by rw [List.getElem?_map, hkj]; rfl
      obtain ⟨c1, c2⟩ := HX.out.at_ j _ hxe
      have HX2 := Lib.hid (HX.out.same hxe)
      have HO2 := Lib.hid (only_setb HO.out j (.int .u8 ((letter kk).toNat : Int)))
      have hz := letter_line kk hk32
      generalize (letter kk).toNat = z at *
      obtain ⟨hz1, hz2, hz3⟩ := hz
      have g1 : (j : Int) < m := by omega
      have g2 : ((z : Int) == 10) = false := by rw [beq_eq_false_iff_ne]; omega
      have g3 : ((z : Int) == 13) = false := by rw [beq_eq_false_iff_ne]; omega
      clear hjl hkj hxe hk32 hz1 hz2
      have hm1 : m - (j + 1) < m - j := by omega
      have hj1 : j + 1 ≤ m := by omega
      go_wp2
      go_roundw
      case rel => exact ⟨j + 1, hj1, by go_num, by go_num, HX2.out, HO2.out⟩
      case measure => simp [intOf]; omega
    · have hjm : j = m := by omega
      subst hjm
      have g1 : ¬ (j : Int) < j := by omega
      have HEX : Hid (EncAt wr p) := HE.out.past' HO.out hp hpw
      have HDC := Lib.hid (decode_any p g j cs cs (some ⟨g, 0, none⟩) (some ⟨g, 0, none⟩) l _ wr HEX.out hp HX.out rfl HM.out hm2 (fun _ => rfl) (fun _ => rfl) hms hcs hms hcs)
      clear hj hlt
      go_wp2_with (first | (go_at_call 42; refine HDC.out.mono ?_; rintro e w2 ⟨rfl, ho2, hx2⟩; have HO2 := Lib.hid (only_trans HO.out ho2); have HX2 := Lib.hid hx2; clear ho2 hx2) | fail)
      go_ret2
      exact ⟨rfl, HO2.out, HX2.out⟩
end Go.Proofs.Ytijbdinemjiepaa
