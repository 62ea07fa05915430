/- slices.Clone and slices.Equal at strings. -/
import Derived.Test.YtijbdinemjiepaaSegS
namespace Go.Proofs.Ytijbdinemjiepaa
open Go.RowKit Go.Lib

theorem own_lit (W : World) (e : TypeId) (cs : List Value) (hm : cs.length ≤ maxLen) : (W.alloc (.cells cs.toArray e)).ownsRow W.heap.size e 1 (.slice (some ⟨W.heap.size, 0, none⟩) cs.length cs.length) cs.length cs := by
  have h := (Blk.new W e cs.toArray).own W.heap.size cs.length cs.length (Nat.le_refl _) (Nat.le_refl _) hm (by simp)
  simpa using h
set_option maxRecDepth 100000 in
theorem clone_any (A : Option Addr) (n c B : Nat) (ls : List (List UInt8)) (w : World) (hA : A.isNone = false) (hr : Reads w B 1 A n (strs ls)) (hB : B ≤ w.heap.size) (hn : n ≤ 1000000) :
    Calls Try.prog 20 #[.slice A n c] w (Owns w 9 1 n (strs ls)) := by
  obtain ⟨i0, hi, hz0, hz1, hz2⟩ := info_parts infoStr
  have hown := own_lit w 9 [] (by simp [maxLen])
  have HO := Lib.hid hown
  have HR := Lib.hid (hr.alloc hB (.cells #[] 9))
  have b1 : 0 + n ≤ maxLen := by unfold maxLen; omega
  have b2 : (0 + n) * 16 ≤ 140737488355328 := by omega
  have hq : (binOp .eql 30 (.slice A n c) (.slice none 0 0)).run Try.prog w = .ok (.bool false) w := by rw [run_eql_slice_nil w 30 9 A n c Try.underlying30, hA]
  clear hr hown
  go_enter Try.func20, Try.ntmps20
  go_wp2_with (first | (at_builtin; refine wpList_append_any _ rfl (.tmp 5) (.tmp 6) 30 rfl w.heap.size 9 i0 _ 1 16 Try.underlying30 hi hz0 hz1 hz2 rfl (by decide) _ 0 [] rfl HO.out B A n c _ rfl HR.out (strs_one _) b1 b2 (by simp) ?_; rintro v3 w3 hown3 hg3 _ _; have HO3 := Lib.hid hown3; have HB3 := Lib.hid ((below_one w (.cells #[] 9)).grown hg3 (by simp) (own_base HO.out)); clear hown3 hg3) | fail)
  go_ret
  have h := HO3.out
  rw [Nat.zero_add, List.nil_append] at h
  exact ⟨⟨_, rfl, h⟩, HB3.out⟩
theorem strs_at (ls : List (List UInt8)) (j : Nat) (h : j < ls.length) : (strs ls)[j]? = some (.string ⟨ls[j].toArray⟩) := by
  simp [strs, List.getElem?_eq_getElem h]
set_option maxRecDepth 100000 in
set_option maxHeartbeats 1000000 in
theorem equal_any (A A' : Option Addr) (n n' c c' B B' : Nat) (ls ms : List (List UInt8)) (w : World) (hr : Reads w B 1 A n (strs ls)) (hr' : Reads w B' 1 A' n' (strs ms)) (hn : n ≤ 1000000) (hn' : n' ≤ 1000000) :
    Calls Try.prog 13 #[.slice A n c, .slice A' n' c'] w fun e w' => e = .returned (.bool (decide (ls = ms))) ∧ ∃ k, w' = w.drewN k := by
  have hln : ls.length = n := by have := hr.1; rw [strs_length] at this; omega
  have hln' : ms.length = n' := by have := hr'.1; rw [strs_length] at this; omega
  have HR := Lib.hid hr
  have HR' := Lib.hid hr'
  have HLN := Lib.hid hln
  have HLN' := Lib.hid hln'
  clear hr hr' hln hln'
  go_enter Try.func13, Try.ntmps13
  by_cases hnn : n = n'
  · subst hnn
    go_wp2
    go_loopw [5, 13] (fun _ i wr => ∃ j : Nat, j ≤ n ∧ i = .int .i64 j ∧ Hid (ls.take j = ms.take j) ∧ Hid (∃ k, wr = w.drewN k)) (fun _ i _ => n - (intOf i).toNat)
    case atStart => exact ⟨0, Nat.zero_le _, rfl, by show _ = _; simp, 0, rfl⟩
    case round =>
      obtain ⟨j, hj, rfl, HL, ⟨k, hk⟩⟩ := hrel
      have kc : ∀ x, wr.cell? x = w.cell? x := fun x => by rw [hk]; rfl
      by_cases hlt : j < n
      · obtain ⟨b, o, rfl, hbB, hc⟩ := HR.out.lit (by omega)
        obtain ⟨b', o', rfl, hbB', hc'⟩ := HR'.out.lit (by omega)
        have hjl : j < ls.length := by have := HLN.out; omega
        have hjl' : j < ms.length := by have := HLN'.out; omega
        have hcj := (kc _).trans (hc j _ (strs_at ls j hjl))
        have hcj' := (kc _).trans (hc' j _ (strs_at ms j hjl'))
        have ht1 := List.take_succ_eq_append_getElem hjl
        have ht2 := List.take_succ_eq_append_getElem hjl'
        have hne : ls[j] ≠ ms[j] → ls ≠ ms := fun h e => h (by simp [e])
        generalize ls[j] = x at hcj ht1 hne
        generalize ms[j] = y at hcj' ht2 hne
        have HT1 := Lib.hid ht1
        have HT2 := Lib.hid ht2
        have HNE := Lib.hid hne
        have HK := Lib.hid hk
        clear hc hc' hk kc ht1 ht2 hne hjl hjl'
        go_wp2_with fail
        go_quiet (fail)
        cases hq : x == y
        · have hxy : x ≠ y := fun e => by rw [e] at hq; simp at hq
          have hne := HNE.out hxy
          have HNE2 := Lib.hid hne
          clear hne hxy
          go_wp2
          go_ret
          exact ⟨by simp [HNE2.out], k + nq, by rw [HK.out, World.drewN_drewN]⟩
        · obtain rfl : x = y := eq_of_beq hq
          have ht : ls.take (j + 1) = ms.take (j + 1) := by rw [HT1.out, HT2.out, HL.out]
          have HT := Lib.hid ht
          clear ht
          go_wp2
          go_roundw
          case rel => exact ⟨j + 1, by omega, by go_num, HT.out, k + nq, by rw [HK.out, World.drewN_drewN]⟩
          case measure => simp [intOf]; omega
      · obtain rfl : j = n := by omega
        have hl := HL.out
        rw [List.take_of_length_le (by have := HLN.out; omega), List.take_of_length_le (by have := HLN'.out; omega)] at hl
        have HL2 := Lib.hid hl
        have HK := Lib.hid hk
        clear hl HL hk kc
        go_wp2
        go_ret
        exact ⟨by simp [HL2.out], k, HK.out⟩
  · have hne : ls ≠ ms := fun e => hnn (by rw [← HLN.out, ← HLN'.out, e])
    go_wp2
    go_ret
    exact ⟨by simp [hne], 0, rfl⟩
end Go.Proofs.Ytijbdinemjiepaa
