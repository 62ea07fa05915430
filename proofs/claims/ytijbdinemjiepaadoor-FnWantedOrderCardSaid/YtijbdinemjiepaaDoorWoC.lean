/- slices.Grow and slices.Concat at rows of pub-tholos/impl.Want. -/
import Derived.Lib.AppendZeros
import Derived.Test.YtijbdinemjiepaaDoorRows
import Derived.Test.YtijbdinemjiepaaDoorRowV
namespace Go.Proofs.YtijbdinemjiepaaDoor
open Go.RowKit

theorem infoWc : (Tryd.prog.info? 54).map (fun i => (i.zero, i.size, i.bytes)) = some (some (.agg #[.int .i64 0, .slice none 0 0, .int .i32 0, .bool false]), 4, 40) := by kernel_rfl
set_option maxRecDepth 100000 in
theorem growW (m : Nat) (w : World) (hm : m ≤ 1000000) : Calls Tryd.prog 53 #[.slice none 0 0, .int .i64 m] w (Made w 54 4 0 [] (m = 0)) := by
  obtain ⟨i0, hi, hz0, hz1, hz2⟩ := info_parts infoWc
  by_cases h0 : m = 0
  · subst h0
    go_enter Tryd.func53, Tryd.ntmps53
    go_wp2
    go_ret
    exact ⟨⟨_, rfl, World.ownsRow_nil _ _ _ _, by simp⟩, Below.refl _ _⟩
  · have hr := Lib.run_append_nil_zeros (P := Tryd.prog) w 46 3 46 54 i0 (.agg #[.int .i64 0, .slice none 0 0, .int .i32 0, .bool false]) .i64 .i64 Tryd.underlying46 Tryd.underlying3 hi hz0 m (by omega) (by omega) (by omega) (by rw [hz2]; omega)
    have hm0 : 0 < m := by omega
    have HR := Lib.hid hr
    clear hr h0
    go_enter Tryd.func53, Tryd.ntmps53
    go_wp2_with (at_builtin; refine Lib.wpList_append_run _ rfl (.tmp 20) (.tmp 21) 46 3 rfl _ _ rfl rfl _ _ HR.out ?_)
    go_ret
    have hcap := grownCap_ge w m 0 54
    refine ⟨⟨_, rfl, World.ownsRow_made (base := w.heap.size) w.drew _ _ (Nat.le_refl _) (grownCap_le_maxLen w m 0 54 (by unfold maxLen; omega)) ?_, ?_⟩, ((Below.refl _ _).drew).alloc (Nat.le_refl _) _⟩
    · simp [size_zeroCells]; omega
    · simp; omega
set_option maxRecDepth 100000 in
set_option maxHeartbeats 1000000 in
theorem concatW (A : Option Addr) (k c B n : Nat) (vs : List Value) (zss : List (Nat × List Value)) (w : World) (hr : Reads w B 1 A k vs) (hv : RowsV w B 4 vs zss) (hn : (zss.map (·.1)).sum = n) (hB : B ≤ w.heap.size) (hk : k ≤ 140737488355328) (hlen : n ≤ 1000000) :
    Calls Tryd.prog 23 #[.slice A k c] w (Owns w 54 4 n (zss.map (·.2)).flatten) := by
  obtain ⟨i0, hi, hz0, hz1, hz2⟩ := info_parts infoWc
  have hkl : zss.length = k := by have := hr.1; have := hv.1; omega
  have hstep : ∀ j, j < k → ∃ zs, zss[j]? = some zs ∧ zss.take (j + 1) = zss.take j ++ [zs] := fun j hj => by
    have h : j < zss.length := by omega
    exact ⟨zss[j], List.getElem?_eq_getElem h, List.take_succ_eq_append_getElem h⟩
  have HKL := Lib.hid hkl
  have HR := Lib.hid hr
  have HV := Lib.hid hv
  have HN := Lib.hid hn
  have HT := Lib.hid hstep
  clear hkl hr hv hn hstep
  go_enter Tryd.func23, Tryd.ntmps23
  go_wp2
  go_loop [3, 11] (fun s i => ∃ j m : Nat, j ≤ k ∧ m ≤ n ∧ i = .int .i64 j ∧ s = .int .i64 m ∧ Hid (m = ((zss.take j).map (·.1)).sum)) (fun _ i => k - (intOf i).toNat)
  case atStart => exact ⟨0, 0, Nat.zero_le _, Nat.zero_le _, rfl, rfl, rfl⟩
  case round =>
    obtain ⟨j, m, hj, hm, rfl, rfl, HM⟩ := hrel
    by_cases hlt : j < k
    · obtain ⟨⟨z1, z2⟩, hz, ht⟩ := HT.out j hlt
      obtain ⟨A1, c1, hvs, hc1, hr1, _⟩ := HV.out.2 j _ hz
      obtain ⟨ad, u, rfl, _, hu, hcell⟩ := HR.out.at_ hlt
      rw [hvs] at hu
      obtain rfl := Option.some.inj hu
      have hle : ((zss.take (j + 1)).map (·.1)).sum = m + z1 := by rw [ht, HM.out]; simp
      have hs2 : m + z1 ≤ n := by have := sum_take zss (j + 1); have := HN.out; omega
      have HLE := Lib.hid hle
      clear hz ht hvs hr1 hu hle
      simp only at hcell hc1
      go_wp2
      go_round
      case rel => exact ⟨j + 1, m + z1, by omega, by omega, by go_num, by go_num, HLE.out.symm⟩
      case measure => simp [intOf]; omega
    · obtain rfl : n = m := by
        have h1 := HM.out
        rw [List.take_of_length_le (by have := HKL.out; omega), HN.out] at h1
        exact h1.symm
      clear HM
      go_wp2_with (go_at_call 53; refine (growW _ _ hlen).mono ?_; rintro e w1 ⟨⟨v6, rfl, hown6, _⟩, hb1⟩)
      go_loopw [6, 27] (fun s i wr => ∃ j m : Nat, j ≤ k ∧ i = .int .i64 j ∧ m ≤ n ∧ Hid (m = ((zss.take j).map (·.1)).sum) ∧ wr.ownsRow w.heap.size 54 4 s m ((zss.take j).map (·.2)).flatten ∧ Below w.heap.size w wr) (fun _ i _ => k - (intOf i).toNat)
      case atStart => exact ⟨0, 0, Nat.zero_le _, rfl, Nat.zero_le _, rfl, by simpa using hown6, hb1⟩
      case round =>
        obtain ⟨j, m, hj, rfl, hm, HM, hown, hbw⟩ := hrel
        by_cases hlt : j < k
        · obtain ⟨⟨z1, z2⟩, hz, ht⟩ := HT.out j hlt
          obtain ⟨A1, c1, hvs, hc1, hr1, b3⟩ := (HV.out.below (hbw.mono hB)).2 j _ hz
          obtain ⟨ad, u, rfl, _, hu, hcell⟩ := (HR.out.below (hbw.mono hB)).at_ hlt
          rw [hvs] at hu
          obtain rfl := Option.some.inj hu
          have hle : ((zss.take (j + 1)).map (·.1)).sum = m + z1 := by rw [ht, HM.out]; simp
          have hcat : ((zss.take (j + 1)).map (·.2)).flatten = ((zss.take j).map (·.2)).flatten ++ z2 := by rw [ht]; simp
          have hs2 : m + z1 ≤ n := by have := sum_take zss (j + 1); have := HN.out; omega
          have HLE := Lib.hid hle
          have HCAT := Lib.hid hcat
          have HR1 := Lib.hid hr1
          have HO := Lib.hid hown
          clear hz ht hvs hr1 hu hle hown hcat
          simp only at hcell hc1 b3
          have b1 : m + z1 ≤ maxLen := by unfold maxLen; omega
          have b2 : (m + z1) * 40 ≤ 140737488355328 := by omega
          have b4 := hbw.size
          go_wp2_with (at_builtin; refine wpList_append_any _ rfl (.tmp 31) (.tmp 32) 46 rfl w.heap.size 54 i0 (.agg #[.int .i64 0, .slice none 0 0, .int .i32 0, .bool false]) 4 40 Tryd.underlying46 hi hz0 hz1 hz2 rfl (by decide) _ m _ rfl HO.out B A1 z1 c1 _ rfl HR1.out b3 b1 b2 b4 ?_; rintro v1 w1 hown1 hg1 _ _; have HO1 := Lib.hid hown1; clear hown1)
          go_roundw
          case rel => exact ⟨j + 1, m + z1, by omega, by go_num, hs2, HLE.out.symm, by rw [HCAT.out]; exact HO1.out, hbw.grown hg1 hbw.size (own_base HO.out)⟩
          case measure => simp [intOf]; omega
        · have HF := Lib.hid (show zss.take j = zss from List.take_of_length_le (by have := HKL.out; omega))
          rw [HF.out] at hown HM
          obtain rfl : n = m := by have h1 := HM.out; rw [HN.out] at h1; exact h1.symm
          have HO := Lib.hid hown
          clear hown
          go_wp2
          go_ret
          exact ⟨⟨_, rfl, HO.out⟩, hbw⟩
end Go.Proofs.YtijbdinemjiepaaDoor
