/- Contracts of the hash's bits: mkmask, next, Next, HashBits and the thin package's HashBits, for takes of 1 to 24 bits. -/
import Derived.Test.YtoebofppmkglfaaInts
import Derived.Test.YtoebofppmkglfaaHashP
import Derived.Laws.BitsAllLaws
namespace Go.Proofs.Ytoebofppmkglfaa
open Go.RowKit

theorem mkmask_any (n : Nat) (w : World) (hn : n ≤ 8) : Calls Try.prog 28 #[.int .i64 n] w fun e w' => e = .returned (.int .u8 ((2 ^ n - 1 : Nat) : Int)) ∧ w = w' := by
  match n, hn with
  | 0, _ | 1, _ | 2, _ | 3, _ | 4, _ | 5, _ | 6, _ | 7, _ | 8, _ =>
    go_enter Try.func28, Try.ntmps28
    go_wp2
    go_ret
    exact ⟨rfl, rfl⟩

theorem mask_and (l : Nat) (hl : l ≤ 8) (x : Nat) (hx : x < 256) : bits .and .u8 ((2 ^ l - 1 : Nat) : Int) (x : Int) = ((x % 2 ^ l : Nat) : Int) := by
  have h : 2 ^ l ≤ 2 ^ 8 := Nat.pow_le_pow_right (by omega) hl
  have h0 : 0 < 2 ^ l := Nat.pow_pos (by omega)
  rw [u8_and_nat _ _ (by omega) hx, Nat.and_comm, Nat.and_two_pow_sub_one_eq_mod]
theorem and_mask (l : Nat) (hl : l ≤ 8) (x : Nat) (hx : x < 256) : bits .and .u8 (x : Int) ((2 ^ l - 1 : Nat) : Int) = ((x % 2 ^ l : Nat) : Int) := by
  have h : 2 ^ l ≤ 2 ^ 8 := Nat.pow_le_pow_right (by omega) hl
  have h0 : 0 < 2 ^ l := Nat.pow_pos (by omega)
  rw [u8_and_nat _ _ hx (by omega), Nat.and_two_pow_sub_one_eq_mod]

theorem clear_low_fin : ∀ k : Fin 9, ∀ v : Fin 256, (v.val &&& (255 ^^^ (2 ^ k.val - 1))) = v.val / 2 ^ k.val * 2 ^ k.val := by decide +kernel
theorem clear_low (v k : Nat) (hv : v < 256) (hk : k ≤ 8) : bits .and .u8 (v : Int) (bits .xor .u8 IntKind.u8.max ((2 ^ k - 1 : Nat) : Int)) = ((v / 2 ^ k * 2 ^ k : Nat) : Int) := by
  have h : 2 ^ k ≤ 2 ^ 8 := Nat.pow_le_pow_right (by omega) hk
  have h0 : 0 < 2 ^ k := Nat.pow_pos (by omega)
  have hx : 255 ^^^ (2 ^ k - 1) < 256 := Nat.xor_lt_two_pow (n := 8) (by omega) (by omega)
  have h1 : bits .xor .u8 IntKind.u8.max ((2 ^ k - 1 : Nat) : Int) = ((255 ^^^ (2 ^ k - 1) : Nat) : Int) := u8_xor_nat 255 _ (by omega) (by omega)
  rw [h1, u8_and_nat _ _ hv hx]
  exact congrArg Int.ofNat (clear_low_fin ⟨k, by omega⟩ ⟨v, hv⟩)

theorem wrap_two (z w : Nat) (hz : z ≤ 4278190080) (hw : w ≤ 16777216) : wrap64 (wrap64 (z : Int) + (w : Int)) = ((z + w : Nat) : Int) := by
  unfold wrap64
  omega
theorem shifted_le (v k : Nat) (hv : v ≤ 255) (hk : k ≤ 24) : v * 2 ^ k ≤ 4278190080 := by
  have h : 2 ^ k ≤ 16777216 := Nat.pow_le_pow_right (n := 2) (by omega) hk
  exact Nat.le_trans (Nat.mul_le_mul hv h) (by decide)
theorem pow24_le (k : Nat) (hk : k ≤ 24) : 2 ^ k ≤ 16777216 := Nat.pow_le_pow_right (n := 2) (by omega) hk

structure NextOut (w : World) (g : Nat) (b : Value) (v p : Nat) (r : Ending) (w' : World) : Prop where
  ret : r = .returned (.int .i64 v)
  blk : Blk w' g 59 #[b, .int .i64 p]
  only : w.grownBy w' (some g)
set_option maxHeartbeats 1000000 in
theorem next_any (g : Nat) (A : Option Addr) (len cap : Nat) (bs : List UInt8) (hlen : bs.length = len) (hlen2 : len ≤ 100000) : ∀ (i c : Nat) (w : World), 1 ≤ i → i ≤ 24 → c + i ≤ 8 * len → Blk w g 59 #[.slice A len cap, .int .i64 c] → Reads w g 1 A len (u8s bs) →
    Calls Try.prog 27 #[.pointer (some ⟨g, 0, none⟩), .int .i64 i] w (NextOut w g (.slice A len cap) (num bs c i) (c + i)) := by
  intro i
  induction i using Nat.strongRecOn with
  | ind i ih =>
  intro c w h1 h2 h3 hb hr
  have hk : c / 8 < len := by omega
  obtain ⟨ad, u, rfl, hlt, hu, hcell⟩ := hr.at_ hk
  rw [u8s_at _ _ (by omega)] at hu
  obtain rfl := Option.some.inj hu
  have c0 : w.cell? ⟨g, 0, none⟩ = some (.slice (some ad) len cap) := by rw [hb.cell]; rfl
  have c1 : w.cell? ⟨g, 1, none⟩ = some (.int .i64 c) := by rw [hb.cell]; rfl
  have f1 := hb.frozen 1
  have hby : bs.getD (c / 8) 0 = bs[c / 8] := by simp [List.getD_eq_getElem?_getD, List.getElem?_eq_getElem (show c / 8 < bs.length by omega)]
  have HNB := Lib.hid (fun j (hj : c % 8 + j ≤ 8) => num_byte bs c j hj)
  rw [hby] at HNB
  generalize bs[c / 8] = x at hcell HNB
  have hx := x.toNat_lt
  have HS := Lib.hid (hb.set_ 1 (.int .i64 ((c + i : Nat) : Int)))
  have HB := Lib.hid hb
  have HR := Lib.hid hr
  have HI := Lib.hid ih
  have HL := Lib.hid hlen
  clear hb hr ih hlen hby hu
  obtain ⟨l, hl⟩ : ∃ l : Nat, 8 - c % 8 = l := ⟨_, rfl⟩
  have HLI : Hid ((8 : Int) - (c : Int) % 8 = (l : Int)) := by show _ = _; omega
  have hl8 : l ≤ 8 := by omega
  by_cases h : i = l
  · subst h
    go_enter Try.func27, Try.ntmps27
    go_wp2_with fail
    refine (mkmask_any _ _ (by omega)).mono ?_
    rintro e w' ⟨rfl, rfl⟩
    have e0 := mask_and i hl8 _ hx
    generalize 2 ^ i - 1 = M at e0 ⊢
    generalize hV : x.toNat % 2 ^ i = V at e0
    have hV2 : V ≤ 255 := by have := Nat.mod_le x.toNat (2 ^ i); omega
    have HV := Lib.hid hV
    clear hV
    go_wp2
    go_ret
    refine ⟨congrArg (fun z => Ending.returned (.int .i64 z)) ?_, ?_, only_set _ _ _ _⟩
    · have h1 := HNB.out i (by omega)
      rw [h1, hl, Nat.sub_self, Nat.pow_zero, Nat.div_one, HV.out]
    · exact HS.out
  · by_cases h' : i < l
    · go_enter Try.func27, Try.ntmps27
      go_wp2_with fail
      rw [HLI.out]
      refine (mkmask_any _ _ hl8).mono ?_
      rintro e w' ⟨rfl, rfl⟩
      have e0 := and_mask l hl8 _ hx
      generalize 2 ^ l - 1 = M at e0 ⊢
      generalize hV : x.toNat % 2 ^ l = V at e0
      have hV2 : V ≤ 255 := by have := Nat.mod_le x.toNat (2 ^ l); omega
      have HV := Lib.hid hV
      clear hV
      go_wp2_with fail
      rw [show ((l : Int) - (i : Int)) = ((l - i : Nat) : Int) by omega]
      refine (mkmask_any _ _ (by omega)).mono ?_
      rintro e w' ⟨rfl, rfl⟩
      have e2 := clear_low V (l - i) (by omega) (by omega)
      generalize 2 ^ (l - i) - 1 = M2 at e2 ⊢
      generalize hk : l - i = k at e2 ⊢
      have e3 : ((V / 2 ^ k * 2 ^ k : Nat) : Int) / 2 ^ k = ((V / 2 ^ k : Nat) : Int) := by
        have h0 : 0 < 2 ^ k := Nat.pow_pos (by omega)
        have h1 : ((V / 2 ^ k * 2 ^ k / 2 ^ k : Nat) : Int) = ((V / 2 ^ k : Nat) : Int) := by rw [Nat.mul_div_cancel _ h0]
        rw [← h1]; simp
      generalize hU : V / 2 ^ k * 2 ^ k = U at e2 e3
      generalize hQ : V / 2 ^ k = Q at e3
      have hQ2 : Q ≤ 255 := by have := Nat.div_le_self V (2 ^ k); omega
      have HQ := Lib.hid hQ
      have HK := Lib.hid hk
      clear hQ hU hk
      go_wp2
      go_ret
      refine ⟨congrArg (fun z => Ending.returned (.int .i64 z)) ?_, ?_, only_set _ _ _ _⟩
      · have h1 := HNB.out i (by omega)
        rw [h1, hl, HV.out, HK.out, HQ.out]
        show wrap64 ((U : Int) / 2 ^ k) = (Q : Int)
        rw [e3]
        unfold wrap64
        omega
      · exact HS.out
    · go_enter Try.func27, Try.ntmps27
      go_wp2_with fail
      rw [HLI.out]
      refine (mkmask_any _ _ hl8).mono ?_
      rintro e w' ⟨rfl, rfl⟩
      have e0 := mask_and l hl8 _ hx
      generalize 2 ^ l - 1 = M at e0 ⊢
      generalize hV : x.toNat % 2 ^ l = V at e0
      have hV2 : V ≤ 255 := by have := Nat.mod_le x.toNat (2 ^ l); omega
      have HV := Lib.hid hV
      clear hV
      have HS2 := Lib.hid (HB.out.set_ 1 (.int .i64 ((c + l : Nat) : Int)))
      have HR2 := Lib.hid (HR.out.setCell (p := ⟨g, 1, none⟩) (Nat.le_refl g) (.int .i64 ((c + l : Nat) : Int)))
      have hs : w.setCell ⟨g, 1, none⟩ (.int .i64 ((c : Int) + (l : Int))) = w.setCell ⟨g, 1, none⟩ (.int .i64 ((c + l : Nat) : Int)) := by simp
      have HSW := Lib.hid hs
      clear hs
      go_wp2_with fail
      rw [show ((i : Int) - (l : Int)) = ((i - l : Nat) : Int) by omega, HSW.out]
      refine (HI.out (i - l) (by omega) (c + l) _ (by omega) (by omega) (by omega) HS2.out HR2.out).mono ?_
      rintro e w2 ⟨rfl, hb2, ho2⟩
      have hlt2 := num_lt bs (c + l) (i - l)
      generalize hW : num bs (c + l) (i - l) = W at hlt2
      have HW := Lib.hid hW
      have HB2 := Lib.hid hb2
      clear hW hb2
      go_wp2
      go_ret
      have hm := shifted_le V (i - l) hV2 (by omega)
      have hw24 : W ≤ 16777216 := Nat.le_trans (Nat.le_of_lt hlt2) (pow24_le _ (by omega))
      have hn : num bs c i = V * 2 ^ (i - l) + W := by
        have h4 := num_add bs c l (i - l)
        have h5 := HNB.out l (by omega)
        rw [hl, Nat.sub_self, Nat.pow_zero, Nat.div_one, HV.out] at h5
        rw [h5, HW.out, show l + (i - l) = i by omega] at h4
        exact h4
      refine ⟨congrArg (fun z => Ending.returned (.int .i64 z)) ?_, ?_, only_trans (only_set _ _ _ _) ho2⟩
      · show wrap64 (wrap64 ((V : Int) * 2 ^ (i - l)) + (W : Int)) = ((num bs c i : Nat) : Int)
        rw [hn, show ((V : Int) * 2 ^ (i - l)) = ((V * 2 ^ (i - l) : Nat) : Int) by simp]
        exact wrap_two _ _ hm hw24
      · have h6 := HB2.out
        rwa [show c + l + (i - l) = c + i by omega] at h6
end Go.Proofs.Ytoebofppmkglfaa
