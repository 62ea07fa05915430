/- Contracts of the thin package's Wrapped, LinkData, ShardData and FileData, and of the closure 'own' of the law FnFieldsMessages. -/
import Derived.Test.YtijbnmmeecmbjaaDoorFmB
namespace Go.Proofs.YtijbnmmeecmbjaaDoor
open Go.RowKit

theorem Wrote.drewN {w w' : World} {bs : List UInt8} {v : Value} (h : Wrote w bs v w') (k : Nat) : Wrote w bs v (w'.drewN k) := by
  obtain ⟨g, c, h1, h2, h3, h4, h5⟩ := h.ex
  exact ⟨⟨g, c, h1, h2, h3, h4, h5.drewN k⟩, below_drewN h.below k⟩
/-- Bytes come back, and true. -/
structure Paired (w : World) (bs : List UInt8) (r : Ending) (w' : World) : Prop where
  ex : ∃ v, r = .returned (.tuple #[v, .bool true]) ∧ Wrote w bs v w'
set_option maxRecDepth 100000 in
theorem wrapped_any (A : Option Addr) (n c B : Nat) (d : List UInt8) (w : World) (hr : Reads w B 1 A n (u8s d)) (hB : B ≤ w.heap.size) (hn : n ≤ 2000) :
    Calls Tryd.prog 20 #[.slice A n c] w (Bytes w (msgBytes ⟨0, some d, some n, none, none⟩)) := by
  obtain ⟨i0, hi, hz0, hz1, hz2⟩ := info_parts infoU8v
  have hdl : d.length = n := by have := hr.1; rw [u8s_length] at this; omega
  have own0 := World.ownsRow_made (base := w.heap.size) (e := 5) (size := 1) w #[] 0 (Nat.le_refl _) (by unfold maxLen; omega) rfl
  have hr1 := Lib.hid (hr.alloc hB (.cells #[] 5))
  have b1 : 0 + n ≤ maxLen := by unfold maxLen; omega
  have b2 : (0 + n) * 1 ≤ 140737488355328 := by omega
  have b3 : w.heap.size ≤ (w.alloc (.cells #[] 5)).heap.size := by simp
  have HO := Lib.hid own0
  have HDL := Lib.hid hdl
  have HF : Hid (∀ v B0 W, OptSl W B0 v (some d) → B0 ≤ W.heap.size → Calls Tryd.prog 37 #[v] W (Bytes W (msgBytes ⟨0, some d, some n, none, none⟩))) := fun v B0 W h1 h2 => by
    have := wrapData_any v B0 d W h1 h2 (by omega)
    rwa [hdl] at this
  clear hr own0 hdl
  go_enter Tryd.func20, Tryd.ntmps20
  go_wp2_with (first | (at_builtin; refine wpList_append_any _ rfl (.tmp 3) (.tmp 4) 22 rfl w.heap.size 5 i0 (.int .u8 0) 1 1 Tryd.underlying22 hi hz0 hz1 hz2 rfl (by decide) _ 0 [] rfl HO.out B A n c (u8s d) rfl hr1.out (u8s_one d) b1 b2 b3 ?_; rintro v1 w1 hown hg hat hnn; have HB1 : Hid (Below w.heap.size w w1) := (below_one w _).grown hg b3 (own_base HO.out); have HX : Hid (OptSl w1 w1.heap.size v1 (some d) ∧ ∃ A9 c9, v1 = .slice A9 n c9) := opt_of_own hown HDL.out (fun e => by cases (hnn.1 e).1); clear hown hg hat hnn; obtain ⟨-, A9, c9, rfl⟩ := HX.out) | (go_at_call 37; refine (HF.out _ _ _ HX.out.1 (Nat.le_refl _)).mono ?_; rintro e w2 ⟨⟨v2, rfl, hw2⟩⟩; obtain ⟨g2, c2, hv2, -⟩ := hw2.ex; have HW2 := Lib.hid hw2; clear hw2; subst hv2) | fail)
  go_ret
  exact ⟨⟨_, rfl, HW2.out.after HB1.out⟩⟩
set_option maxRecDepth 100000 in
theorem implShard_any (A : Option Addr) (n c B fan hash : Nat) (d : List UInt8) (w : World) (hr : Reads w B 1 A n (u8s d)) (hB : B ≤ w.heap.size) (hn : n ≤ 2000) (hf : fan < 18446744073709551616) (hh : hash < 18446744073709551616) :
    Calls Tryd.prog 15 #[.slice A n c, .int .u64 (fan : Int), .int .u64 (hash : Int)] w (Paired w (msgBytes ⟨5, some d, none, some hash, some fan⟩)) := by
  obtain ⟨i0, hi, hz0, hz1, hz2⟩ := info_parts infoU8v
  have hdl : d.length = n := by have := hr.1; rw [u8s_length] at this; omega
  have own0 := World.ownsRow_made (base := w.heap.size) (e := 5) (size := 1) w #[] 0 (Nat.le_refl _) (by unfold maxLen; omega) rfl
  have hr1 := Lib.hid (hr.alloc hB (.cells #[] 5))
  have b1 : 0 + n ≤ maxLen := by unfold maxLen; omega
  have b2 : (0 + n) * 1 ≤ 140737488355328 := by omega
  have b3 : w.heap.size ≤ (w.alloc (.cells #[] 5)).heap.size := by simp
  have HO := Lib.hid own0
  have HDL := Lib.hid hdl
  have HF : Hid (∀ v B0 W, OptSl W B0 v (some d) → B0 ≤ W.heap.size → Calls Tryd.prog 33 #[v, .int .u64 (fan : Int), .int .u64 (hash : Int)] W (Marshalled W (msgBytes ⟨5, some d, none, some hash, some fan⟩))) := fun v B0 W h1 h2 => shardData_any v B0 fan hash d W h1 h2 (by omega) hf hh
  clear hr own0 hdl hf hh
  go_enter Tryd.func15, Tryd.ntmps15
  go_wp2_with (first | (at_builtin; refine wpList_append_any _ rfl (.tmp 11) (.tmp 12) 22 rfl w.heap.size 5 i0 (.int .u8 0) 1 1 Tryd.underlying22 hi hz0 hz1 hz2 rfl (by decide) _ 0 [] rfl HO.out B A n c (u8s d) rfl hr1.out (u8s_one d) b1 b2 b3 ?_; rintro v1 w1 hown hg hat hnn; have HB1 : Hid (Below w.heap.size w w1) := (below_one w _).grown hg b3 (own_base HO.out); have HX : Hid (OptSl w1 w1.heap.size v1 (some d) ∧ ∃ A9 c9, v1 = .slice A9 n c9) := opt_of_own hown HDL.out (fun e => by cases (hnn.1 e).1); clear hown hg hat hnn; obtain ⟨-, A9, c9, rfl⟩ := HX.out) | (go_at_call 33; refine (HF.out _ _ _ HX.out.1 (Nat.le_refl _)).mono ?_; rintro e w2 ⟨⟨v2, rfl, hw2⟩⟩; obtain ⟨g2, c2, hv2, -⟩ := hw2.ex; have HW2 := Lib.hid hw2; clear hw2; subst hv2) | fail)
  go_quiet (fail)
  go_wp2
  go_ret2
  exact ⟨⟨_, rfl, (HW2.out.after HB1.out).drewN _⟩⟩
set_option maxRecDepth 100000 in
theorem implLink_any (s : ByteArray) (w : World) (hs : s.size ≤ 2000) :
    Calls Tryd.prog 14 #[.string s] w (Paired w (msgBytes ⟨4, some s.data.toList, none, none, none⟩)) := by
  have HF := Lib.hid (fun W => symData_any s W hs)
  go_enter Tryd.func14, Tryd.ntmps14
  go_wp2_with (first | (go_at_call 32; refine (HF.out _).mono ?_; rintro e w2 ⟨⟨v2, rfl, hw2⟩⟩; obtain ⟨g2, c2, hv2, -⟩ := hw2.ex; have HW2 := Lib.hid hw2; clear hw2; subst hv2) | fail)
  go_quiet (fail)
  go_wp2
  go_ret2
  exact ⟨⟨_, rfl, HW2.out.drewN _⟩⟩
theorem fileData0_any (A : Option Addr) (n c total : Nat) (w : World) (ht : total < 18446744073709551616) :
    Calls Tryd.prog 18 #[.bool false, .slice A n c, .int .u64 (total : Int)] w (Bytes w (msgBytes ⟨2, none, some total, none, none⟩)) := by
  have HF := Lib.hid (fun W => filePB_any (.slice none 0 0) W.heap.size total none W (.no _ _) (Nat.le_refl _) (by decide) ht)
  clear ht
  go_enter Tryd.func18, Tryd.ntmps18
  go_wp2_with (first | (go_at_call 36; refine (HF.out _).mono ?_; rintro e w2 ⟨⟨v2, rfl, hw2⟩⟩; obtain ⟨g2, c2, hv2, -⟩ := hw2.ex; have HW2 := Lib.hid hw2; clear hw2; subst hv2) | fail)
  go_ret
  exact ⟨⟨_, rfl, HW2.out⟩⟩
/-- The closure 'own': the data, in a row of the call's own. -/
theorem own_any (g : Nat) (A : Option Addr) (n c B : Nat) (d : List UInt8) (w : World) (hc : w.cell? ⟨g, 0, none⟩ = some (.slice A n c)) (hr : Reads w B 1 A n (u8s d)) (hB : B ≤ w.heap.size) (hn : n ≤ 2000) :
    Calls Tryd.prog 13 #[.pointer (some ⟨g, 0, none⟩)] w (Owns w 5 1 n (u8s d)) := by
  obtain ⟨i0, hi, hz0, hz1, hz2⟩ := info_parts infoU8v
  have own0 := World.ownsRow_made (base := w.heap.size) (e := 5) (size := 1) w #[] 0 (Nat.le_refl _) (by unfold maxLen; omega) rfl
  have hr1 := Lib.hid (hr.alloc hB (.cells #[] 5))
  have hc1 := cell_alloc hc (.cells #[] 5)
  have b1 : 0 + n ≤ maxLen := by unfold maxLen; omega
  have b2 : (0 + n) * 1 ≤ 140737488355328 := by omega
  have b3 : w.heap.size ≤ (w.alloc (.cells #[] 5)).heap.size := by simp
  have HO := Lib.hid own0
  clear hr own0
  go_enter Tryd.func13, Tryd.ntmps13
  go_wp2_with (first | (at_builtin; refine wpList_append_any _ rfl (.tmp 2) (.tmp 3) 22 rfl w.heap.size 5 i0 (.int .u8 0) 1 1 Tryd.underlying22 hi hz0 hz1 hz2 rfl (by decide) _ 0 [] rfl HO.out B A n c (u8s d) rfl hr1.out (u8s_one d) b1 b2 b3 ?_; rintro v1 w1 hown hg hat hnn; have HB1 : Hid (Below w.heap.size w w1) := (below_one w _).grown hg b3 (own_base HO.out); have HO1 := Lib.hid hown; clear hown hg hat hnn) | fail)
  go_ret
  exact ⟨⟨_, rfl, by have h := HO1.out; rw [List.nil_append, Nat.zero_add] at h; exact h⟩, HB1.out⟩
end Go.Proofs.YtijbnmmeecmbjaaDoor
