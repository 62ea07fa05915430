/- The thin package's CidSafe, at an identifier of the version 1. -/
import Derived.LaidEql
import Derived.Test.YtijbdinemjiepaaDoorCidX
namespace Go.Proofs.YtijbdinemjiepaaDoor
open Go.RowKit

theorem said_safe (a1 a2 a3 : Addr) (c n : Nat) : (saidV a1 a2 a3 c n = .nilIface ∧ safeN c n = 0) ∨ (saidV a1 a2 a3 c n = errV a1 ∧ safeN c n = 1) ∨ (saidV a1 a2 a3 c n = errV a2 ∧ safeN c n = 2) ∨ (saidV a1 a2 a3 c n = errV a3 ∧ safeN c n = 3) := by
  unfold saidV safeN
  cases secure c
  · exact .inr (.inl ⟨rfl, rfl⟩)
  · by_cases h1 : c ≠ 0 ∧ n < 20
    · exact .inr (.inr (.inl ⟨by simp [h1], by simp [h1]⟩))
    · by_cases h2 : c ≠ 0 ∧ 128 < n
      · exact .inr (.inr (.inr ⟨by simp only [if_true]; rw [if_neg h1, if_pos h2], by simp only [if_true]; rw [if_neg h1, if_pos h2]⟩))
      · exact .inl ⟨by simp only [if_true]; rw [if_neg h1, if_neg h2], by simp only [if_true]; rw [if_neg h1, if_neg h2]⟩
theorem compE : (Tryd.prog.info? 153).map (·.comparable) = some true := by kernel_rfl
theorem sizeE : (Tryd.prog.info? 155).map (·.size) = some 1 := by kernel_rfl
theorem eq_same (w : World) (a : Addr) : (binOp .eql 91 (errV a) (errV a)).run Tryd.prog w = .ok (.bool true) w := by
  obtain ⟨i, hi, hcmp⟩ := Option.map_eq_some_iff.1 compE
  obtain ⟨j, hj, _⟩ := Option.map_eq_some_iff.1 sizeE
  exact run_eql_iface_ptr_same w a Tryd.underlying91 Tryd.underlying153 hi hcmp hj
theorem eq_other {w : World} {a b : Addr} (hne : a ≠ b) (ha : ∃ c t, w.heap[a.block]? = some (.cells c t (0, 0))) (hb : ∃ c t, w.heap[b.block]? = some (.cells c t (0, 0))) : (binOp .eql 91 (errV a) (errV b)).run Tryd.prog w = .ok (.bool false) w := by
  obtain ⟨i, hi, hcmp⟩ := Option.map_eq_some_iff.1 compE
  obtain ⟨j, hj, hjs⟩ := Option.map_eq_some_iff.1 sizeE
  obtain ⟨ca, ta, ea⟩ := ha
  obtain ⟨cb, tb, eb⟩ := hb
  exact run_eql_iface_ptr_other w Tryd.underlying91 Tryd.underlying153 hi hcmp hj (by rw [hjs]; decide) hne ea eb
set_option maxRecDepth 100000 in
theorem clone_any (A : Option Addr) (n c B : Nat) (l : List UInt8) (w : World) (hA : A.isNone = false) (hr : Reads w B 1 A n (u8s l)) (hB : B ≤ w.heap.size) (hn : n ≤ 1000000) :
    Calls Tryd.prog 30 #[.slice A n c] w (Owns w 5 1 n (u8s l)) := by
  obtain ⟨i0, hi, hz0, hz1, hz2⟩ := info_parts infoU8
  have hown := World.ownsRow_made (base := w.heap.size) (e := 5) (size := 1) w #[] 0 (Nat.le_refl _) (by unfold maxLen; omega) rfl
  have HO := Lib.hid hown
  have HR := Lib.hid (hr.alloc hB (.cells #[] 5))
  have b1 : 0 + n ≤ maxLen := by unfold maxLen; omega
  have b2 : (0 + n) * 1 ≤ 140737488355328 := by omega
  have hq : (binOp .eql 30 (.slice A n c) (.slice none 0 0)).run Tryd.prog w = .ok (.bool false) w := by rw [run_eql_slice_nil w 30 5 A n c Tryd.underlying30, hA]
  clear hr hown
  go_enter Tryd.func30, Tryd.ntmps30
  go_wp2_with (first | (at_builtin; refine wpList_append_any _ rfl (.tmp 5) (.tmp 6) 30 rfl w.heap.size 5 i0 _ 1 1 Tryd.underlying30 hi hz0 hz1 hz2 rfl (by decide) _ 0 [] rfl HO.out B A n c _ rfl HR.out (u8s_one _) b1 b2 (by simp) ?_; rintro v3 w3 hown3 hg3 _ _; have HO3 := Lib.hid hown3; have HB3 := Lib.hid ((below_one w (.cells #[] 5)).grown hg3 (by simp) (own_base HO.out)); clear hown3 hg3) | fail)
  go_ret
  have h := HO3.out
  rw [Nat.zero_add, List.nil_append] at h
  exact ⟨⟨_, rfl, h⟩, HB3.out⟩
set_option maxRecDepth 100000 in
set_option maxHeartbeats 2000000 in
theorem implSafe_any (cdc : UInt8) (code : Nat) (d : List UInt8) (A : Option Addr) (n c B : Nat) (a1 a2 a3 : Addr) (w : World) (hA : A.isNone = false) (hcd : cdc.toNat < 128) (hx : code < 2097152) (hd : d.length ≤ 1000) (hr : Reads w B 1 A n (u8s (cidBytes cdc code d))) (hn : n ≤ 2000) (hB : B ≤ w.heap.size) (he : Errs w a1 a2 a3) :
    Calls Tryd.prog 16 #[.slice A n c] w fun e w' => e = .returned (.int .i64 (safeN code d.length)) ∧ Below w.heap.size w w' := by
  have HC := Lib.hid (clone_any A n c B _ w hA hr hB (by omega))
  have HE := Lib.hid he
  have hnp : 0 < n := by have := hr.1; rw [u8s_length] at this; simp [cidBytes] at this; omega
  have hsv := said_safe a1 a2 a3 code d.length
  clear hr he
  rcases hsv with ⟨hv, hsn⟩ | ⟨hv, hsn⟩ | ⟨hv, hsn⟩ | ⟨hv, hsn⟩
  all_goals
    rw [hsn]
    have HV := Lib.hid hv
    clear hv hsn
    go_enter Tryd.func16, Tryd.ntmps16
    go_wp2_with (first | (go_at_call 30; refine HC.out.mono ?_; clear HC; rintro e w1 ⟨⟨v1, rfl, ho1⟩, hb1⟩; obtain ⟨A1, c1, rfl, hle1, hr1⟩ := own_shape ho1; obtain ⟨b, o, rfl, _, _⟩ := hr1.lit hnp; have HR1 := Lib.hid hr1; have HE1 := Lib.hid (HE.out.below hb1); have HB1 := Lib.hid hb1; clear ho1 hr1 hb1) | (go_at_call 38; refine (cast_any cdc code d b o n c1 _ _ hcd hx hd HR1.out hle1 (Nat.le_refl _)).mono ?_; rintro e w2 ⟨rfl, hb2⟩; have HE2 := Lib.hid ((HE1.out.below hb2).below (below_one w2 (.cells #[.string ⟨(cidBytes cdc code d).toArray⟩] 72))); have HB2 := Lib.hid hb2; clear hb2) | (go_at_call 39; refine (validate_any cdc code d _ a1 a2 a3 _ hcd hx hd rfl HE2.out).mono ?_; rw [HV.out]; rintro e w3 ⟨rfl, hb3⟩; have he3 := HE2.out.below hb3; have g1 := he3.g1; have g2 := he3.g2; have q11 := eq_same w3 a1; have q22 := eq_same w3 a2; have q21 := eq_other (Ne.symm he3.n12) he3.b2 he3.b1; have q31 := eq_other (Ne.symm he3.n13) he3.b3 he3.b1; have q32 := eq_other (Ne.symm he3.n23) he3.b3 he3.b2; (try simp only [errV] at q11 q22 q21 q31 q32 ⊢); have HB3 := Lib.hid hb3; clear hb3 he3) | fail)
  all_goals
    go_ret
    have f2 := below_alloc (below_then HB1.out HB1.out.size HB2.out) (.cells #[.string ⟨(cidBytes cdc code d).toArray⟩] 72)
    exact ⟨rfl, below_then f2 f2.size HB3.out⟩
end Go.Proofs.YtijbdinemjiepaaDoor
