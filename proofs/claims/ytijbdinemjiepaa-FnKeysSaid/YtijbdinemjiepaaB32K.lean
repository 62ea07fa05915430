/- The reference's Key. -/
import Derived.Test.YtijbdinemjiepaaB32R
namespace Go.Proofs.Ytijbdinemjiepaa
open Go.RowKit Go.Lib

def raise (x : UInt8) : UInt8 := if 97 ≤ x.toNat ∧ x.toNat ≤ 122 then x - 32 else x
def raised (L : List UInt8) (i : Nat) : List UInt8 := (L.take i).map raise ++ L.drop i
theorem raised_length (L : List UInt8) (i : Nat) : (raised L i).length = L.length := by simp [raised]; omega
theorem raised_at (L : List UInt8) (i : Nat) (h : i < L.length) : (raised L i)[i]? = some L[i] := by
  unfold raised
  rw [List.getElem?_append_right (by simp; omega), List.length_map, List.length_take, Nat.min_eq_left (by omega), Nat.sub_self, List.getElem?_drop, Nat.add_zero, List.getElem?_eq_getElem h]
theorem raised_set (L : List UInt8) (i : Nat) (h : i < L.length) : (raised L i).set i (raise L[i]) = raised L (i + 1) := by
  unfold raised
  rw [List.set_append_right _ _ (by simp; omega), List.length_map, List.length_take, Nat.min_eq_left (by omega), Nat.sub_self, List.drop_eq_getElem_cons h, List.set_cons_zero, List.take_succ_eq_append_getElem h, List.map_append, List.append_assoc]
  rfl
theorem raised_keep (L : List UInt8) (i : Nat) (h : i < L.length) (hk : raise L[i] = L[i]) : raised L i = raised L (i + 1) := by
  rw [← raised_set L i h, hk]
  refine (List.ext_getElem? fun k => ?_)
  by_cases hki : i = k
  · subst hki; rw [List.getElem?_set_self (by rw [raised_length]; exact h), raised_at L i h]
  · rw [List.getElem?_set_ne hki]
theorem raised_all (L : List UInt8) : raised L L.length = L.map raise := by simp [raised]
theorem raise_small : ∀ k, k < 32 → raise (small k) = letter k := by decide
theorem raise_digits (l : List UInt8) : ((enc5 l).map small).map raise = (enc5 l).map letter := by
  rw [List.map_map]
  exact List.map_congr_left fun k hk => raise_small k (enc5_lt l k hk)
/-- The text of a key. -/
def keyTxt (l : List UInt8) : ByteArray := ⟨(47 :: (enc5 l).map letter).toArray⟩
theorem slash_txt (l : List Nat) : (⟨#[47]⟩ : ByteArray) ++ txt small l = ⟨(47 :: l.map small).toArray⟩ := by
  apply ByteArray.ext
  simp [txt, ByteArray.data_append]
set_option maxRecDepth 100000 in
set_option maxHeartbeats 4000000 in
theorem specKey_any (A : Option Addr) (n c B : Nat) (l : List UInt8) (w : World) (hr : Reads w B 1 A n (u8s l)) (hn : n ≤ 300) :
    Calls Try.prog 9 #[.slice A n c] w fun e w' => e = .returned (.string (keyTxt l)) ∧ Below w.heap.size w w' := by
  have hln : l.length = n := by have := hr.1; rw [u8s_length] at this; omega
  have hel := enc5_length l
  have HB := Lib.hid (base32_any A n c B l w hr hn)
  have HT := Lib.hid (slash_txt (enc5 l))
  have hts : (txt small (enc5 l)).size ≤ 1000 := by rw [txt_size]; omega
  obtain ⟨L, hL⟩ : ∃ L, 47 :: (enc5 l).map small = L := ⟨_, rfl⟩
  have hLl : L.length ≤ 1000 := by rw [← hL]; simp; omega
  have HK : Hid (keyTxt l = ⟨(L.map raise).toArray⟩) := by show _ = _; rw [← hL, List.map_cons, raise_digits]; rfl
  rw [hL] at HT
  have HLL := Lib.hid hLl
  clear hr hln hel hL
  generalize txt small (enc5 l) = tx at *
  obtain ⟨s, hs⟩ : ∃ s : ByteArray, (⟨#[47]⟩ : ByteArray) ++ tx = s := ⟨_, rfl⟩
  rw [hs] at HT
  have hss : s.size = L.length := by rw [HT.out]; simp [ByteArray.size]
  have HS : Hid (s.data.toList = L) := by show _ = _; rw [HT.out]
  have hcv := fun W : World => Lib.run_convert_string_bytes (P := Try.prog) W 9 22 5 s Try.underlying9 Try.underlying22 Try.underlying5
  have HR := Lib.hid (row_bytes w s)
  have HW := Lib.hid (below_bytes w s)
  clear HT
  go_enter Try.func9, Try.ntmps9
  go_wp2_with (first | (go_at_call 19; refine HB.out.mono ?_; rintro e w1 ⟨rfl, rfl⟩) | fail)
  generalize grownCap w1 L.length 0 5 = cap at *
  clear hcv
  go_loopw [12] (fun i wr => ∃ j : Nat, j ≤ L.length ∧ i = .int .i64 j ∧ Hid (ByRow wr w1.heap.size (raised L j)) ∧ Hid (Below w1.heap.size w1 wr)) (fun i _ => L.length - (intOf i).toNat)
  case atStart => exact ⟨0, Nat.zero_le _, rfl, by show ByRow _ _ _; have h := HR.out; rw [HS.out] at h; exact h, HW.out⟩
  case round =>
    obtain ⟨j, hj, rfl, HA, HV⟩ := hrel
    clear HR HW
    by_cases hlt : j < L.length
    · obtain ⟨k1, k2⟩ := HA.out.at_ j _ (raised_at L j hlt)
      have hg := HA.out.lt
      obtain ⟨x, hx⟩ : ∃ x, L[j] = x := ⟨_, rfl⟩
      rw [hx] at k1
      have hx8 : x.toNat < 256 := UInt8.toNat_lt _
      have g1 : (j : Int) < (L.length : Int) := by omega
      have HX := Lib.hid hx
      clear hx
      by_cases h1 : 97 ≤ x.toNat
      · have h1' : (97 : Int) ≤ (x.toNat : Int) := by omega
        by_cases h2 : x.toNat ≤ 122
        · have h2' : (x.toNat : Int) ≤ 122 := by omega
          have hr2 : raise x = x - 32 := by simp [raise, h1, h2]
          have hr3 : ((x - 32 : UInt8).toNat : Int) = (x.toNat : Int) - 32 := by rw [UInt8.toNat_sub_of_le _ _ (UInt8.le_iff_toNat_le.2 (by show 32 ≤ x.toNat; omega))]; show ((x.toNat - 32 : Nat) : Int) = _; omega
          have HN : Hid (ByRow (wr.setCell ⟨w1.heap.size, j, none⟩ (.int .u8 ((x.toNat : Int) - 32))) w1.heap.size (raised L (j + 1))) := by
            show ByRow _ _ _
            rw [← raised_set L j hlt, HX.out, hr2, ← hr3]
            exact HA.out.set j _ (by rw [raised_length]; exact hlt)
          clear hr2 hr3
          go_wp2
          go_roundw
          case rel => exact ⟨j + 1, by omega, by go_num, HN.out, HV.out.setCell (Nat.le_refl _) _⟩
          case measure => simp [intOf]; omega
        · have h2' : ¬ (x.toNat : Int) ≤ 122 := by omega
          have HN : Hid (raised L j = raised L (j + 1)) := raised_keep L j hlt (by rw [HX.out]; simp [raise, h2])
          go_wp2
          go_roundw
          case rel => exact ⟨j + 1, by omega, by go_num, by show ByRow _ _ _; rw [← HN.out]; exact HA.out, HV.out⟩
          case measure => simp [intOf]; omega
      · have h1' : ¬ (97 : Int) ≤ (x.toNat : Int) := by omega
        have HN : Hid (raised L j = raised L (j + 1)) := raised_keep L j hlt (by rw [HX.out]; simp [raise, h1])
        go_wp2
        go_roundw
        case rel => exact ⟨j + 1, by omega, by go_num, by show ByRow _ _ _; rw [← HN.out]; exact HA.out, HV.out⟩
        case measure => simp [intOf]; omega
    · have hrd := HA.out.reads
      rw [show j = L.length by omega, raised_all, List.length_map] at hrd
      have kcv := run_convert_reads (P := Try.prog) wr 22 5 Try.underlying22 Try.underlying5 _ _ _ cap _ hrd 9 Try.underlying9
      have g1 : ¬ (j : Int) < (L.length : Int) := by omega
      rw [← HK.out] at kcv
      obtain ⟨kt, hkt⟩ : ∃ kt, keyTxt l = kt := ⟨_, rfl⟩
      rw [hkt] at kcv
      have HKT := Lib.hid hkt
      clear hrd hkt
      go_wp2
      go_ret
      exact ⟨by rw [HKT.out]; rfl, HV.out⟩
end Go.Proofs.Ytijbdinemjiepaa
