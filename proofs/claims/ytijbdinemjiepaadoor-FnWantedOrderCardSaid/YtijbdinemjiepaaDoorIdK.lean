/- slices.Grow and slices.Concat at bytes. -/
import Derived.Lib.AppendZeros
import Derived.Test.YtijbdinemjiepaaDoorIdD
namespace Go.Proofs.YtijbdinemjiepaaDoor
open Go.RowKit

def RowsB (w : World) (B : Nat) (vs : List Value) (zss : List (List UInt8)) : Prop :=
  vs.length = zss.length ∧ ∀ (i : Nat) (zs : List UInt8), zss[i]? = some zs → ∃ (A : Option Addr) (c : Nat), vs[i]? = some (Value.slice A zs.length c) ∧ zs.length ≤ c ∧ Reads w B 1 A zs.length (u8s zs)
theorem RowsB.below {w w' : World} {B : Nat} {vs : List Value} {zss : List (List UInt8)} (h : RowsB w B vs zss) (hb : Below B w w') : RowsB w' B vs zss :=
  ⟨h.1, fun i zs hz => by
    obtain ⟨A, c, h1, h2, h3⟩ := h.2 i zs hz
    exact ⟨A, c, h1, h2, h3.below hb⟩⟩

theorem RowsB.more {w : World} {B B' : Nat} {vs : List Value} {zss : List (List UInt8)} (h : RowsB w B vs zss) (hB : B ≤ B') : RowsB w B' vs zss :=
  ⟨h.1, fun i zs hz => by
    obtain ⟨A, c, h1, h2, h3⟩ := h.2 i zs hz
    exact ⟨A, c, h1, h2, h3.more hB⟩⟩
theorem RowsB.nil (w : World) (B : Nat) : RowsB w B [] [] := ⟨rfl, fun i zs h => by simp at h⟩
theorem RowsB.cons {w : World} {B : Nat} {vs : List Value} {zss : List (List UInt8)} (h : RowsB w B vs zss) {A : Option Addr} {n c : Nat} {zs : List UInt8} (hr : Reads w B 1 A n (u8s zs)) (hc : n ≤ c) : RowsB w B (.slice A n c :: vs) (zs :: zss) := by
  have hn : zs.length = n := by have := hr.1; simp only [u8s_length, Nat.mul_one] at this; exact this
  subst hn
  refine ⟨by simp [h.1], fun i ys hy => ?_⟩
  cases i with
  | zero =>
    obtain rfl : zs = ys := by simpa using hy
    exact ⟨A, c, rfl, hc, hr⟩
  | succ i => exact h.2 i ys (by simpa using hy)
set_option maxRecDepth 100000 in
/-- slices.Grow of nil: room for m numbers. -/
theorem grow_u8 (m : Nat) (w : World) (hm : m ≤ 17592186044416) : Calls Tryd.prog 37 #[.slice none 0 0, .int .i64 m] w (Made w 5 1 0 [] (m = 0)) := by
  obtain ⟨i0, hi, hz0, hz1, hz2⟩ := info_parts infoU8
  by_cases h0 : m = 0
  · subst h0
    go_enter Tryd.func37, Tryd.ntmps37
    go_wp2
    go_ret
    exact ⟨⟨_, rfl, World.ownsRow_nil _ _ _ _, by simp⟩, Below.refl _ _⟩
  · have hr := Lib.run_append_nil_zeros (P := Tryd.prog) w 30 3 30 5 i0 (.int .u8 0) .i64 .i64 Tryd.underlying30 Tryd.underlying3 hi hz0 m (by omega) (by omega) (by omega) (by rw [hz2]; omega)
    have hm0 : 0 < m := by omega
    have HR := Lib.hid hr
    clear hr h0
    go_enter Tryd.func37, Tryd.ntmps37
    go_wp2_with (at_builtin; refine Lib.wpList_append_run _ rfl (.tmp 20) (.tmp 21) 30 3 rfl _ _ rfl rfl _ _ HR.out ?_)
    go_ret
    have hcap := grownCap_ge w m 0 5
    refine ⟨⟨_, rfl, World.ownsRow_made (base := w.heap.size) w.drew _ _ (Nat.le_refl _) (grownCap_le_maxLen w m 0 5 (by unfold maxLen; omega)) ?_, ?_⟩, ((Below.refl _ _).drew).alloc (Nat.le_refl _) _⟩
    · simp [size_zeroCells]; omega
    · simp; omega

theorem flat_take (zss : List (List UInt8)) (j : Nat) : (zss.take j).flatten.length ≤ zss.flatten.length := by
  have h : zss.flatten.length = (zss.take j).flatten.length + (zss.drop j).flatten.length := by
    rw [← List.length_append, ← List.flatten_append, List.take_append_drop]
  omega
set_option maxRecDepth 100000 in
/-- slices.Concat of any slices. -/
theorem concat_u8 (A : Option Addr) (k c B n : Nat) (vs : List Value) (zss : List (List UInt8)) (w : World) (hr : Reads w B 1 A k vs) (hv : RowsB w B vs zss) (hn : zss.flatten.length = n) (hB : B ≤ w.heap.size) (hk : k ≤ 140737488355328) (hlen : n ≤ 17592186044416) :
    Calls Tryd.prog 14 #[.slice A k c] w (Owns w 5 1 n (u8s zss.flatten)) := by
  obtain ⟨i0, hi, hz0, hz1, hz2⟩ := info_parts infoU8
  have hkl : zss.length = k := by have := hr.1; have := hv.1; omega
  have hstep : ∀ j, j < k → ∃ zs, zss[j]? = some zs ∧ zss.take (j + 1) = zss.take j ++ [zs] := fun j hj => by
    have h : j < zss.length := by omega
    exact ⟨zss[j], List.getElem?_eq_getElem h, List.take_succ_eq_append_getElem h⟩
  have HKL := Lib.hid hkl
  have HR := Lib.hid hr
  have HV := Lib.hid hv
  have HN := Lib.hid hn
  have HT := Lib.hid hstep
  clear hkl hr hv hn hstep
  go_enter Tryd.func14, Tryd.ntmps14
  go_wp2
  go_loop [3, 11] (fun s i => ∃ j m : Nat, j ≤ k ∧ m ≤ n ∧ i = .int .i64 j ∧ s = .int .i64 m ∧ Hid (m = (zss.take j).flatten.length)) (fun _ i => k - (intOf i).toNat)
  case atStart => exact ⟨0, 0, Nat.zero_le _, Nat.zero_le _, rfl, rfl, rfl⟩
  case round =>
    obtain ⟨j, m, hj, hm, rfl, rfl, HM⟩ := hrel
    by_cases hlt : j < k
    · obtain ⟨zs, hz, ht⟩ := HT.out j hlt
      obtain ⟨A1, c1, hvs, hc1, hr1⟩ := HV.out.2 j zs hz
      obtain ⟨ad, u, rfl, _, hu, hcell⟩ := HR.out.at_ hlt
      rw [hvs] at hu
      obtain rfl := Option.some.inj hu
      have hle : (zss.take (j + 1)).flatten.length = m + zs.length := by rw [ht, HM.out]; simp
      have hs2 : m + zs.length ≤ n := by have := flat_take zss (j + 1); have := HN.out; omega
      have HLE := Lib.hid hle
      clear hz ht hvs hr1 hu hle
      go_wp2
      go_round
      case rel => exact ⟨j + 1, m + zs.length, by omega, by omega, by go_num, by go_num, HLE.out.symm⟩
      case measure => simp [intOf]; omega
    · obtain rfl : n = m := by
        have h1 := HM.out
        rw [List.take_of_length_le (by have := HKL.out; omega), HN.out] at h1
        exact h1.symm
      clear HM
      go_wp2_with (go_at_call 37; refine (grow_u8 _ _ hlen).mono ?_; rintro e w1 ⟨⟨v6, rfl, hown6, _⟩, hb1⟩)
      go_loopw [6, 27] (fun s i wr => ∃ j m : Nat, j ≤ k ∧ i = .int .i64 j ∧ m ≤ n ∧ wr.ownsRow w.heap.size 5 1 s m (u8s (zss.take j).flatten) ∧ Below w.heap.size w wr) (fun _ i _ => k - (intOf i).toNat)
      case atStart => exact ⟨0, 0, Nat.zero_le _, rfl, Nat.zero_le _, by simpa [u8s] using hown6, hb1⟩
      case round =>
        obtain ⟨j, m, hj, rfl, hm, hown, hbw⟩ := hrel
        by_cases hlt : j < k
        · obtain ⟨zs, hz, ht⟩ := HT.out j hlt
          obtain ⟨A1, c1, hvs, hc1, hr1⟩ := (HV.out.below (hbw.mono hB)).2 j zs hz
          obtain ⟨ad, u, rfl, _, hu, hcell⟩ := (HR.out.below (hbw.mono hB)).at_ hlt
          rw [hvs] at hu
          obtain rfl := Option.some.inj hu
          have hml : m = (zss.take j).flatten.length := by have := hown.1; simp only [u8s_length, Nat.mul_one] at this; exact this.symm
          have hle : (zss.take (j + 1)).flatten = (zss.take j).flatten ++ zs := by rw [ht]; simp
          have hs2 : m + zs.length ≤ n := by have h1 := flat_take zss (j + 1); have h2 := HN.out; rw [hle, List.length_append, ← hml] at h1; omega
          have HLE := Lib.hid hle
          have HR1 := Lib.hid hr1
          have HO := Lib.hid hown
          clear hz ht hvs hr1 hu hle hml hown
          have b1 : m + zs.length ≤ maxLen := by unfold maxLen; omega
          have b2 : (m + zs.length) * 1 ≤ 140737488355328 := by omega
          have b3 := u8s_one zs
          have b4 := hbw.size
          go_wp2_with (at_builtin; refine wpList_append_any _ rfl (.tmp 31) (.tmp 32) 30 rfl w.heap.size 5 i0 (.int .u8 0) 1 1 Tryd.underlying30 hi hz0 hz1 hz2 rfl (by decide) _ m _ rfl HO.out B A1 zs.length c1 _ rfl HR1.out b3 b1 b2 b4 ?_; rintro v1 w1 hown1 hg1 _ _; have HO1 := Lib.hid hown1; clear hown1)
          go_roundw
          case rel => exact ⟨j + 1, m + zs.length, by omega, by go_num, hs2, by rw [HLE.out, u8s_append]; exact HO1.out, hbw.grown hg1 hbw.size (own_base HO.out)⟩
          case measure => simp [intOf]; omega
        · have HF := Lib.hid (show zss.take j = zss from List.take_of_length_le (by have := HKL.out; omega))
          rw [HF.out] at hown
          obtain rfl : n = m := by have := hown.1; simp only [u8s_length, Nat.mul_one] at this; have := HN.out; omega
          have HO := Lib.hid hown
          clear hown
          go_wp2
          go_ret
          exact ⟨⟨_, rfl, HO.out⟩, hbw⟩

end Go.Proofs.YtijbdinemjiepaaDoor
