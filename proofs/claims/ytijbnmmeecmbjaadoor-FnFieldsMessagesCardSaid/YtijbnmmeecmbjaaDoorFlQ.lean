/- The thin package's FileData and FolderData; the fixed example folderAwake; spec.SizeOf. -/
import Derived.Lib.SlBytesConst
import Derived.Test.YtijbnmmeecmbjaaDoorFlZ
namespace Go.Proofs.YtijbnmmeecmbjaaDoor
open Go.RowKit

theorem opt_of_own {w : World} {base n : Nat} {e : TypeId} {v : Value} {d : List UInt8} (h : w.ownsRow base e 1 v (0 + n) ([] ++ u8s d)) (hd : d.length = n) (hne : v ≠ .slice none 0 0) : OptSl w w.heap.size v (some d) ∧ ∃ A c, v = .slice A n c := by
  rw [List.nil_append, Nat.zero_add] at h
  obtain ⟨A, c, rfl, hc, hr⟩ := own_shape h
  subst hd
  refine ⟨⟨A, c, rfl, ?_, hc, hr⟩, A, c, rfl⟩
  rcases h.2 with ⟨h1, -⟩ | ⟨g, cap, cur, h1, -⟩
  · exact absurd h1 hne
  · injection h1 with hA
    rw [hA]; rfl
set_option maxRecDepth 100000 in
theorem fileData_any (A : Option Addr) (n c B total : Nat) (d : List UInt8) (w : World) (hr : Reads w B 1 A n (u8s d)) (hB : B ≤ w.heap.size) (hn : n ≤ 2000) (ht : total < 18446744073709551616) :
    Calls Tryd.prog 18 #[.bool true, .slice A n c, .int .u64 (total : Int)] w (Bytes w (msgBytes ⟨2, some d, some total, none, none⟩)) := by
  obtain ⟨i0, hi, hz0, hz1, hz2⟩ := info_parts infoU8v
  have hdl : d.length = n := by have := hr.1; rw [u8s_length] at this; omega
  have own0 := World.ownsRow_made (base := w.heap.size) (e := 5) (size := 1) w #[] 0 (Nat.le_refl _) (by unfold maxLen; omega) rfl
  have hr1 := Lib.hid (hr.alloc hB (.cells #[] 5))
  have b1 : 0 + n ≤ maxLen := by unfold maxLen; omega
  have b2 : (0 + n) * 1 ≤ 140737488355328 := by omega
  have b3 : w.heap.size ≤ (w.alloc (.cells #[] 5)).heap.size := by simp
  have HO := Lib.hid own0
  have HDL := Lib.hid hdl
  have HF : Hid (∀ v B0 W, OptSl W B0 v (some d) → B0 ≤ W.heap.size → Calls Tryd.prog 36 #[v, .int .u64 (total : Int)] W (Bytes W (msgBytes ⟨2, some d, some total, none, none⟩))) := fun v B0 W h1 h2 => filePB_any v B0 total (some d) W h1 h2 (by show d.length ≤ 2000; omega) ht
  clear hr own0 hdl
  go_enter Tryd.func18, Tryd.ntmps18
  go_wp2_with (first | (at_builtin; refine wpList_append_any _ rfl (.tmp 11) (.tmp 12) 22 rfl w.heap.size 5 i0 (.int .u8 0) 1 1 Tryd.underlying22 hi hz0 hz1 hz2 rfl (by decide) _ 0 [] rfl HO.out B A n c (u8s d) rfl hr1.out (u8s_one d) b1 b2 b3 ?_; rintro v1 w1 hown hg hat hnn; have HB1 : Hid (Below w.heap.size w w1) := (below_one w _).grown hg b3 (own_base HO.out); have HX : Hid (OptSl w1 w1.heap.size v1 (some d) ∧ ∃ A9 c9, v1 = .slice A9 n c9) := opt_of_own hown HDL.out (fun e => by cases (hnn.1 e).1); clear hown hg hat hnn; obtain ⟨-, A9, c9, rfl⟩ := HX.out) | (go_at_call 36; refine (HF.out _ _ _ HX.out.1 (Nat.le_refl _)).mono ?_; rintro e w2 ⟨⟨v2, rfl, hw2⟩⟩; obtain ⟨g2, c2, hv2, -⟩ := hw2.ex; have HW2 := Lib.hid hw2; clear hw2; subst hv2) | fail)
  go_ret
  exact ⟨⟨_, rfl, HW2.out.after HB1.out⟩⟩
set_option maxRecDepth 100000 in
theorem folderData_any (w : World) : Calls Tryd.prog 22 #[] w (Bytes w [8, 1]) := by
  have HF := Lib.hid (fun W => folderPB_any W)
  go_enter Tryd.func22, Tryd.ntmps22
  go_wp2_with (first | (go_at_call 38; refine (HF.out _).mono ?_; rintro e w2 ⟨⟨v2, rfl, hw2⟩⟩; obtain ⟨g2, c2, hv2, -⟩ := hw2.ex; have HW2 := Lib.hid hw2; clear hw2; subst hv2) | fail)
  go_ret
  exact ⟨⟨_, rfl, HW2.out⟩⟩
/-- The fixed example's bytes. -/
theorem example_bytes : msgBytes ⟨2, some [97, 98], some 7, none, none⟩ = [8, 2, 18, 2, 97, 98, 24, 7] := by
  show (8 :: uv 2) ++ ((18 :: (uv 2 ++ [97, 98])) ++ ((24 :: uv 7) ++ ([] ++ []))) = _
  rw [uv_small (show 2 < 128 by decide), uv_small (show 7 < 128 by decide)]
  rfl
theorem example_kn : Kn [8, 2, 18, 2, 97, 98, 24, 7] :=
  .step (key := 8) (k := 1) (t := ⟨1, 0, 2, [], 2⟩) rfl (.inl rfl) rfl (.step (key := 18) (k := 1) (t := ⟨2, 2, 0, [97, 98], 4⟩) rfl (.inr (.inl rfl)) rfl (.step (key := 24) (k := 1) (t := ⟨3, 0, 7, [], 2⟩) rfl (.inr (.inr (.inl rfl))) rfl .nil))
theorem example_size : sizeOf_ (ms 8 FSt.zero [8, 2, 18, 2, 97, 98, 24, 7]) = some 7 := by
  have h : ms 8 FSt.zero [8, 2, 18, 2, 97, 98, 24, 7] = some ⟨some (i32w 2), [97, 98], 7, [], 0, 0⟩ := rfl
  have e : i32w 2 = 2 := by unfold i32w; omega
  rw [h, e]
  rfl
/-- What a struct that is read tells of its size. -/
def szV (t : Int) (fs len : Nat) : Value := match szOf t fs len with | some x => .tuple #[.int .u64 (x : Int), .bool true] | none => .tuple #[.int .u64 0, .bool false]
set_option maxRecDepth 100000 in
theorem sizeOf_any (t : Int) (A : Option Addr) (n c fs h f : Nat) (A2 : Option Addr) (n2 c2 : Nat) (w : World) (hn : n ≤ 1000000) :
    Calls Tryd.prog 11 #[.agg #[.int .i64 t, .slice A n c, .int .u64 (fs : Int), .slice A2 n2 c2, .int .u64 (h : Int), .int .u64 (f : Int)]] w fun e w' => e = .returned (szV t fs n) ∧ Below w.heap.size w w' := by
  have hc : IntKind.u64.wrap (n : Int) = n := IntWalk.u64_in _ ⟨by omega, by omega⟩
  by_cases h0 : t = 0
  · subst h0
    have hz := Lib.hid (show szV 0 fs n = .tuple #[.int .u64 (fs : Int), .bool true] by simp [szV, szOf])
    go_enter Tryd.func11, Tryd.ntmps11
    go_wp2
    go_ret2
    exact ⟨by rw [hz.out]; rfl, below_one _ _⟩
  · by_cases h2 : t = 2
    · subst h2
      have hz := Lib.hid (show szV 2 fs n = .tuple #[.int .u64 (fs : Int), .bool true] by simp [szV, szOf])
      go_enter Tryd.func11, Tryd.ntmps11
      go_wp2
      go_ret2
      exact ⟨by rw [hz.out]; rfl, below_one _ _⟩
    · by_cases h4 : t = 4
      · subst h4
        have hz := Lib.hid (show szV 4 fs n = .tuple #[.int .u64 (n : Int), .bool true] by simp [szV, szOf])
        go_enter Tryd.func11, Tryd.ntmps11
        go_wp2
        go_ret2
        exact ⟨by rw [hz.out]; rfl, below_one _ _⟩
      · have hz := Lib.hid (show szV t fs n = .tuple #[.int .u64 0, .bool false] by simp [szV, szOf, h0, h2, h4])
        have b0 : (t == 0) = false := by simpa using h0
        have b2 : (t == 2) = false := by simpa using h2
        have b4 : (t == 4) = false := by simpa using h4
        go_enter Tryd.func11, Tryd.ntmps11
        go_wp2
        go_ret2
        exact ⟨by rw [hz.out]; rfl, below_one _ _⟩
theorem reads_marked (w : World) (e : TypeId) (cs : List Value) (fr : Nat × Nat) : Reads (w.alloc (.cells cs.toArray e fr)) (w.heap.size + 1) 1 (some ⟨w.heap.size, 0, none⟩) cs.length cs := by
  refine ⟨by simp, fun _ => ⟨_, rfl, by simp, fun j u hu => ?_⟩⟩
  rw [add_plain, Nat.zero_add, cell_of_row _ w.heap.size j cs.toArray e fr (heap_alloc_new w _)]
  simpa using hu
/-- True comes back, and all that was there is as it was. -/
structure Yes (w : World) (r : Ending) (w' : World) : Prop where
  ret : r = .returned (.bool true)
  below : Below w.heap.size w w'
set_option maxRecDepth 100000 in
set_option maxHeartbeats 2000000 in
theorem folderAwake_any (a0 a1 a2 a3 : Addr) (w : World) (he : ErrsF w a0 a1 a2 a3) :
    Calls Tryd.prog 7 #[] w (Yes w) := by
  have HE := Lib.hid he
  have hl := reads_marked w 5 (u8s [97, 98]) (2, 3)
  have hcv := Lib.run_convert_bytes_const (P := Tryd.prog) w 22 5 #[.int .u8 97, .int .u8 98] 2 2 Tryd.underlying22 Tryd.underlying5
  have HF := Lib.hid (fileData_any _ 2 2 _ 7 [97, 98] _ hl (by simp) (by decide) (by decide))
  rw [example_bytes] at HF
  have HB0 := Lib.hid (below_one w (.cells (u8s [97, 98]).toArray 5 (2, 3)))
  have HD : Hid (∀ W A c, Reads W W.heap.size 1 A 8 (u8s [8, 2, 18, 2, 97, 98, 24, 7]) → ErrsF W a0 a1 a2 a3 → Calls Tryd.prog 8 #[.slice A 8 c] W (NumIs W (some 7))) := fun W A c hr hE => by
    have h := implSize_any (c := c) (⟨hr, Nat.le_refl _, by decide, rfl, example_kn, hE⟩ : Ask0 W A 8 W.heap.size [8, 2, 18, 2, 97, 98, 24, 7] a0 a1 a2 a3)
    rw [show ([8, 2, 18, 2, 97, 98, 24, 7] : List UInt8).length = 8 from rfl, example_size] at h
    exact h
  have HFO := Lib.hid (fun W => folderData_any W)
  have HSB := Lib.hid (fun (A1 A2 : Option Addr) (n1 c1 n2 c2 B1 B2 : Nat) (l1 l2 : List UInt8) (w : World) h1 h2 => sameBytes_any A1 A2 n1 c1 n2 c2 B1 B2 l1 l2 w h1 h2)
  clear he hl
  go_enter Tryd.func7, Tryd.ntmps7
  go_wp2_with (first | (go_at_call 18; refine HF.out.mono ?_; clear HF; rintro e w1 ⟨⟨v1, rfl, hw1⟩⟩; obtain ⟨g1, c1, hv1, hc1, -, -, hr1⟩ := hw1.ex; have HB1 := Lib.hid (HB0.out.trans (hw1.below.mono HB0.out.size)); have HR1 := Lib.hid hr1; clear hw1 hr1; subst hv1) | (go_at_call 8; refine (HD.out _ _ _ HR1.out (HE.out.below HB1.out HE.out.lt)).mono ?_; rintro e w2 ⟨rfl, hb2⟩; have HB2 := Lib.hid (below_then HB1.out HB1.out.size hb2); clear hb2) | (go_at_call 22; refine (HFO.out _).mono ?_; rintro e w3 ⟨⟨v3, rfl, hw3⟩⟩; obtain ⟨g3, c3, hv3, hc3, -, -, hr3⟩ := hw3.ex; have HB3 := Lib.hid (below_then HB2.out HB2.out.size hw3.below); have HR3 := Lib.hid hr3; clear hw3 hr3; subst hv3) | (go_at_call 12; refine (HSB.out _ _ _ _ _ _ _ _ [8, 1] [8, 1] _ (HR3.out.alloc (Nat.le_refl _) _) (reads_lit w3 5 (u8s [8, 1]))).mono ?_; rintro e w4 ⟨rfl, rfl⟩) | fail)
  go_ret
  exact ⟨rfl, below_alloc HB3.out _⟩
end Go.Proofs.YtijbnmmeecmbjaaDoor
