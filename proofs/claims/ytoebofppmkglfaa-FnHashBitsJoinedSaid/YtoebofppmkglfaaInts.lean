/- Contracts of package slices at []int: Clone, Grow of nil, Concat, Reverse of a row of the call's own, Equal. -/
import Derived.Test.YtoebofppmkglfaaStd
import Derived.Lib.AppendZeros
import Derived.Deep.LoopGhost
import Derived.Deep.QuietTactic
import Derived.BigQuiet
import Derived.RegionTactic
import Derived.ChangeAlike
import Derived.Outline
import Derived.BigRegion
namespace Go.Proofs.Ytoebofppmkglfaa
open Go.RowKit

theorem infoInt : (Try.prog.info? 3).map (fun i => (i.zero, i.size, i.bytes)) = some (some (.int .i64 0), 1, 8) := by kernel_rfl

/-- slices.Clone of []int: nil of nil, else new numbers. -/
theorem clone_i64 (A : Option Addr) (n c B : Nat) (l : List Value) (w : World) (hr : Reads w B 1 A n l) (h1 : ∀ u ∈ l, u.oneCell' = true) (hn : n ≤ 17592186044416) (hB : B ≤ w.heap.size) :
    Calls Try.prog 9 #[.slice A n c] w (Made w 3 1 n l (A = none)) := by
  obtain ⟨i0, hi, hz0, hz1, hz2⟩ := info_parts infoInt
  have ke := Lib.run_eql_slice_nil (P := Try.prog) w 29 3 A n c 0 0 Try.underlying29
  rcases A with _ | ad
  · obtain rfl : n = 0 := by
      rcases Nat.eq_zero_or_pos n with h0 | h0
      · exact h0
      · obtain ⟨ad, h, _⟩ := hr.2 h0
        cases h
    obtain rfl : l = [] := List.eq_nil_of_length_eq_zero (by simpa using hr.1)
    clear hr
    go_enter Try.func9, Try.ntmps9
    go_wp2
    go_ret
    exact ⟨⟨_, rfl, World.ownsRow_nil _ _ _ _, by simp⟩, Below.refl _ _⟩
  · have own0 := World.ownsRow_made (base := w.heap.size) (e := 3) (size := 1) w #[] 0 (Nat.le_refl _) (by unfold maxLen; omega) rfl
    go_enter Try.func9, Try.ntmps9
    have hr1 := hr.alloc hB (.cells #[] 3)
    have b1 : 0 + n ≤ maxLen := by unfold maxLen; omega
    have b2 : (0 + n) * 8 ≤ 140737488355328 := by omega
    have b3 : w.heap.size ≤ (w.alloc (.cells #[] 3)).heap.size := by simp
    go_wp2_with (at_builtin; refine wpList_append_any _ rfl (.tmp 5) (.tmp 6) 29 rfl w.heap.size 3 i0 (.int .i64 0) 1 8 Try.underlying29 hi hz0 hz1 hz2 rfl (by decide) _ 0 [] rfl own0 B (some ad) n c l rfl hr1 h1 b1 b2 b3 ?_; rintro v1 w1 hown hg _ hnn)
    go_ret
    exact ⟨⟨v1, rfl, by simpa using hown, ⟨fun h => (by have h2 : Value.slice (some ⟨w.heap.size, 0, none⟩) 0 0 = .slice none 0 0 := (hnn.1 h).1; cases h2), nofun⟩⟩, (below_one w _).grown hg b3 (own_base own0)⟩


/-- slices.Grow of nil: room for m numbers. -/
theorem grow_i64 (m : Nat) (w : World) (hm : m ≤ 17592186044416) : Calls Try.prog 22 #[.slice none 0 0, .int .i64 m] w (Made w 3 1 0 [] (m = 0)) := by
  obtain ⟨i0, hi, hz0, hz1, hz2⟩ := info_parts infoInt
  by_cases h0 : m = 0
  · subst h0
    go_enter Try.func22, Try.ntmps22
    go_wp2
    go_ret
    exact ⟨⟨_, rfl, World.ownsRow_nil _ _ _ _, by simp⟩, Below.refl _ _⟩
  · have hr := Lib.run_append_nil_zeros (P := Try.prog) w 29 3 29 3 i0 (.int .i64 0) .i64 .i64 Try.underlying29 Try.underlying3 hi hz0 m (by omega) (by omega) (by omega) (by rw [hz2]; omega)
    have hm0 : 0 < m := by omega
    have HR := Lib.hid hr
    clear hr h0
    go_enter Try.func22, Try.ntmps22
    go_wp2_with (at_builtin; refine Lib.wpList_append_run _ rfl (.tmp 20) (.tmp 21) 29 3 rfl _ _ rfl rfl _ _ HR.out ?_)
    go_ret
    have hcap := grownCap_ge w m 0 3
    refine ⟨⟨_, rfl, World.ownsRow_made (base := w.heap.size) w.drew _ _ (Nat.le_refl _) (grownCap_le_maxLen w m 0 3 (by unfold maxLen; omega)) ?_, ?_⟩, ((Below.refl _ _).drew).alloc (Nat.le_refl _) _⟩
    · simp [size_zeroCells]; omega
    · simp; omega

theorem flat_take (zss : List (List Int)) (j : Nat) : (zss.take j).flatten.length ≤ zss.flatten.length := by
  have h : zss.flatten.length = (zss.take j).flatten.length + (zss.drop j).flatten.length := by
    rw [← List.length_append, ← List.flatten_append, List.take_append_drop]
  omega
/-- slices.Concat of any slices. -/
theorem concat_i64 (A : Option Addr) (k c B n : Nat) (vs : List Value) (zss : List (List Int)) (w : World) (hr : Reads w B 1 A k vs) (hv : RowsI w B vs zss) (hn : zss.flatten.length = n) (hB : B ≤ w.heap.size) (hk : k ≤ 140737488355328) (hlen : n ≤ 17592186044416) :
    Calls Try.prog 11 #[.slice A k c] w (Owns w 3 1 n (i64s zss.flatten)) := by
  obtain ⟨i0, hi, hz0, hz1, hz2⟩ := info_parts infoInt
  have hkl : zss.length = k := by have := hr.1; have := hv.1; omega
  have hstep : ∀ j, j < k → ∃ zs, zss[j]? = some zs ∧ zss.take (j + 1) = zss.take j ++ [zs] := fun j hj => by
    have h : j < zss.length := by omega
    exact ⟨zss[j], List.getElem?_eq_getElem h, List.take_succ_eq_append_getElem h⟩
  have HKL := Lib.hid hkl
  have HR := Lib.hid hr
  have HV := Lib.hid hv
  have HN := Lib.hid hn
  have HT := Lib.hid hstep
  clear hkl hr hv hn hstep
  go_enter Try.func11, Try.ntmps11
  go_wp2
  go_loop [3, 11] (fun s i => ∃ j m : Nat, j ≤ k ∧ m ≤ n ∧ i = .int .i64 j ∧ s = .int .i64 m ∧ Hid (m = (zss.take j).flatten.length)) (fun _ i => k - (intOf i).toNat)
  case atStart => exact ⟨0, 0, Nat.zero_le _, Nat.zero_le _, rfl, rfl, rfl⟩
  case round =>
    obtain ⟨j, m, hj, hm, rfl, rfl, HM⟩ := hrel
    by_cases hlt : j < k
    · obtain ⟨zs, hz, ht⟩ := HT.out j hlt
      obtain ⟨A1, c1, hvs, hc1, hr1⟩ := HV.out.2 j zs hz
      obtain ⟨ad, u, rfl, _, hu, hcell⟩ := HR.out.at_ hlt
      rw [hvs] at hu
      obtain rfl := Option.some.inj hu
      have hle : (zss.take (j + 1)).flatten.length = m + zs.length := by rw [ht, HM.out]; simp
      have hs2 : m + zs.length ≤ n := by have := flat_take zss (j + 1); have := HN.out; omega
      have HLE := Lib.hid hle
      clear hz ht hvs hr1 hu hle
      go_wp2
      go_round
      case rel => exact ⟨j + 1, m + zs.length, by omega, by omega, by go_num, by go_num, HLE.out.symm⟩
      case measure => simp [intOf]; omega
    · obtain rfl : n = m := by
        have h1 := HM.out
        rw [List.take_of_length_le (by have := HKL.out; omega), HN.out] at h1
        exact h1.symm
      clear HM
      go_wp2_with (go_at_call 22; refine (grow_i64 _ _ hlen).mono ?_; rintro e w1 ⟨⟨v6, rfl, hown6, _⟩, hb1⟩)
      go_loopw [6, 27] (fun s i wr => ∃ j m : Nat, j ≤ k ∧ i = .int .i64 j ∧ m ≤ n ∧ wr.ownsRow w.heap.size 3 1 s m (i64s (zss.take j).flatten) ∧ Below w.heap.size w wr) (fun _ i _ => k - (intOf i).toNat)
      case atStart => exact ⟨0, 0, Nat.zero_le _, rfl, Nat.zero_le _, by simpa [i64s] using hown6, hb1⟩
      case round =>
        obtain ⟨j, m, hj, rfl, hm, hown, hbw⟩ := hrel
        by_cases hlt : j < k
        · obtain ⟨zs, hz, ht⟩ := HT.out j hlt
          obtain ⟨A1, c1, hvs, hc1, hr1⟩ := (HV.out.below (hbw.mono hB)).2 j zs hz
          obtain ⟨ad, u, rfl, _, hu, hcell⟩ := (HR.out.below (hbw.mono hB)).at_ hlt
          rw [hvs] at hu
          obtain rfl := Option.some.inj hu
          have hml : m = (zss.take j).flatten.length := by have := hown.1; simp only [i64s_length, Nat.mul_one] at this; exact this.symm
          have hle : (zss.take (j + 1)).flatten = (zss.take j).flatten ++ zs := by rw [ht]; simp
          have hs2 : m + zs.length ≤ n := by have h1 := flat_take zss (j + 1); have h2 := HN.out; rw [hle, List.length_append, ← hml] at h1; omega
          have HLE := Lib.hid hle
          have HR1 := Lib.hid hr1
          have HO := Lib.hid hown
          clear hz ht hvs hr1 hu hle hml hown
          have b1 : m + zs.length ≤ maxLen := by unfold maxLen; omega
          have b2 : (m + zs.length) * 8 ≤ 140737488355328 := by omega
          have b3 := i64s_one zs
          have b4 := hbw.size
          go_wp2_with (at_builtin; refine wpList_append_any _ rfl (.tmp 31) (.tmp 32) 29 rfl w.heap.size 3 i0 (.int .i64 0) 1 8 Try.underlying29 hi hz0 hz1 hz2 rfl (by decide) _ m _ rfl HO.out B A1 zs.length c1 _ rfl HR1.out b3 b1 b2 b4 ?_; rintro v1 w1 hown1 hg1 _ _; have HO1 := Lib.hid hown1; clear hown1)
          go_roundw
          case rel => exact ⟨j + 1, m + zs.length, by omega, by go_num, hs2, by rw [HLE.out, i64s_append]; exact HO1.out, hbw.grown hg1 hbw.size (own_base HO.out)⟩
          case measure => simp [intOf]; omega
        · have HF := Lib.hid (show zss.take j = zss from List.take_of_length_le (by have := HKL.out; omega))
          rw [HF.out] at hown
          obtain rfl : n = m := by have := hown.1; simp only [i64s_length, Nat.mul_one] at this; have := HN.out; omega
          have HO := Lib.hid hown
          clear hown
          go_wp2
          go_ret
          exact ⟨⟨_, rfl, HO.out⟩, hbw⟩

/-- slices.Reverse of a row of the call's own. -/
structure Turned (w : World) (base : Nat) (e : TypeId) (v : Value) (n : Nat) (xs : List Value) (r : Ending) (w' : World) : Prop where
  ret : r = .returned (.tuple #[])
  own : w'.ownsRow base e 1 v n xs
  only : w.grownBy w' v.ownBlock
def mirrored (n i : Nat) (xs L : List Int) : Prop := L.length = n ∧ ∀ p, p < n → L.getD p 0 = if p < i ∨ n - 1 - i < p then xs.getD (n - 1 - p) 0 else xs.getD p 0
theorem mirrored_end {n i : Nat} {xs L : List Int} (hx : xs.length = n) (h : mirrored n i xs L) (hi : n ≤ i + 1 + i) : L = xs.reverse := by
  apply List.ext_getElem
  · simp [h.1, hx]
  · intro p h1 h2
    have hp : p < n := by have := h.1; omega
    have h3 := h.2 p hp
    rw [List.getElem_reverse]
    have e1 : L.getD p 0 = L[p] := by simp [List.getD_eq_getElem?_getD, List.getElem?_eq_getElem h1]
    have e2 : xs.getD (n - 1 - p) 0 = xs[xs.length - 1 - p]'(by omega) := by
      simp [List.getD_eq_getElem?_getD, hx, List.getElem?_eq_getElem (show n - 1 - p < xs.length by omega)]
    rw [← e1, ← e2, h3]
    split
    · rfl
    · rename_i hn
      have : p = n - 1 - p := by omega
      rw [← this]
theorem mirrored_step {n i : Nat} {xs L : List Int} (h : mirrored n i xs L) (hi : i + 1 + i < n) : mirrored n (i + 1) xs ((L.set i (L.getD (n - 1 - i) 0)).set (n - 1 - i) (L.getD i 0)) := by
  have hl := h.1
  refine ⟨by simp [hl], fun p hp => ?_⟩
  have ha := h.2 i (by omega)
  have hb := h.2 (n - 1 - i) (by omega)
  rw [if_neg (by omega)] at ha hb
  have hc := h.2 p hp
  simp only [List.getD_eq_getElem?_getD, List.getElem?_set, List.length_set] at *
  by_cases h1 : p = n - 1 - i
  · subst h1
    have e : n - 1 - (n - 1 - i) = i := by omega
    rw [if_pos rfl, if_pos (by omega), if_pos (by omega), e]
    simpa using ha
  · rw [if_neg (fun e => h1 e.symm)]
    by_cases h2 : p = i
    · subst h2
      rw [if_pos rfl, if_pos (by omega), if_pos (by omega)]
      simpa using hb
    · rw [if_neg (fun e => h2 e.symm), hc]
      by_cases h3 : p < i ∨ n - 1 - i < p
      · rw [if_pos h3, if_pos (by omega)]
      · rw [if_neg h3, if_neg (by omega)]
theorem reverse_i64 (base n : Nat) (v : Value) (xs : List Int) (w : World) (hown : w.ownsRow base 3 1 v n (i64s xs)) (hn : n ≤ 17592186044416) :
    Calls Try.prog 10 #[v] w (Turned w base 3 v n (i64s xs.reverse)) := by
  have hxn : xs.length = n := by have := hown.1; simp only [i64s_length, Nat.mul_one] at this; exact this
  obtain ⟨A, c, rfl, hnc, hr0⟩ := own_shape hown
  have HX := Lib.hid hxn
  have HO := Lib.hid hown
  clear hxn hown hr0
  go_enter Try.func10, Try.ntmps10
  go_wp2
  go_loopw [2, 3] (fun a b wr => ∃ (i : Nat) (j : Int) (L : List Int), i ≤ n ∧ a = .int .i64 i ∧ b = .int .i64 j ∧ j + 1 + i = n ∧ Hid (mirrored n i xs L) ∧ wr.ownsRow base 3 1 (.slice A n c) n (i64s L) ∧ w.grownBy wr (Value.slice A n c).ownBlock) (fun a _ _ => n - (intOf a).toNat)
  case atStart => exact ⟨0, (n : Int) - 1, xs, Nat.zero_le _, rfl, rfl, by omega, ⟨HX.out, fun p hp => by rw [if_neg (by omega)]⟩, HO.out, World.grownBy.refl _ _⟩
  case round =>
    obtain ⟨i, j, L, hi, rfl, rfl, hj, HM, hown, hg⟩ := hrel
    by_cases hlt : (i : Int) < j
    · obtain ⟨g, c', hv, _, _, _⟩ := own_form hown (by omega)
      obtain ⟨rfl, _, _⟩ := by simpa using hv
      obtain ⟨q, rfl⟩ := Int.eq_ofNat_of_zero_le (show 0 ≤ j by omega)
      have hL : L.length = n := HM.out.1
      have ci := own_cell hown (g := g) rfl i _ (i64s_at L i (by omega))
      have cq := own_cell hown (g := g) rfl q _ (i64s_at L q (by omega))
      have fi := own_frozen hown (g := g) rfl i
      have fq := own_frozen hown (g := g) rfl q
      have o1 := own_set (own_set hown (g := g) rfl i (.int .i64 L[q])) (g := g) rfl q (.int .i64 L[i])
      have ei : L.getD i 0 = L[i] := by simp [List.getD_eq_getElem?_getD, List.getElem?_eq_getElem (show i < L.length by omega)]
      have eq_ : L.getD q 0 = L[q] := by simp [List.getD_eq_getElem?_getD, List.getElem?_eq_getElem (show q < L.length by omega)]
      have st := mirrored_step HM.out (by omega)
      rw [show n - 1 - i = q by omega, ei, eq_] at st
      have el : ((i64s L).set i (.int .i64 L[q])).set q (.int .i64 L[i]) = i64s ((L.set i L[q]).set q L[i]) := by simp [i64s, List.map_set]
      rw [el] at o1
      have HO1 := Lib.hid o1
      have HST := Lib.hid st
      have hiq : i ≠ q := by omega
      generalize L[i] = x at ci HO1 HST
      generalize L[q] = y at cq HO1 HST
      clear o1 st el ei eq_ hown HM hL
      go_wp2
      go_region
      go_wp2
      go_roundw
      case rel => exact ⟨i + 1, (q : Int) - 1, _, by omega, by go_num, rfl, by omega, HST.out, HO1.out, only_drew (only_trans (only_trans hg (only_set _ _ _ _)) (only_set _ _ _ _))⟩
      case measure => simp [intOf]; omega
    · have e := mirrored_end HX.out HM.out (by omega)
      rw [e] at hown
      have HO1 := Lib.hid hown
      clear hown e HM
      go_wp2
      go_end0
      exact ⟨rfl, HO1.out, hg⟩
end Go.Proofs.Ytoebofppmkglfaa
