/- bytes.Clone, bytes.Equal; EncodedLen, RawKey, NewKeyFromBinary, impl.KeyOf. -/
import Derived.Lib.LazyBuf
import Derived.Lib.ConvBytes
import Derived.Test.YtijbdinemjiepaaB32F
namespace Go.Proofs.Ytijbdinemjiepaa
open Go.RowKit Go.Lib

theorem infoU8 : (Try.prog.info? 5).map (fun i => (i.zero, i.size, i.bytes)) = some (some (.int .u8 0), 1, 1) := by kernel_rfl

/-- bytes.Clone: nil of nil, else new bytes. -/
theorem clone_u8 (A : Option Addr) (n c B : Nat) (l : List Value) (w : World) (hr : Reads w B 1 A n l) (h1 : ∀ u ∈ l, u.oneCell' = true) (hn : n ≤ 140737488355328) (hB : B ≤ w.heap.size) :
    Calls Try.prog 7 #[.slice A n c] w (Made w 5 1 n l (A = none)) := by
  obtain ⟨i0, hi, hz0, hz1, hz2⟩ := info_parts infoU8
  have ke := Lib.run_eql_slice_nil (P := Try.prog) w 22 5 A n c 0 0 Try.underlying22
  rcases A with _ | ad
  · obtain rfl : n = 0 := by
      rcases Nat.eq_zero_or_pos n with h0 | h0
      · exact h0
      · obtain ⟨ad, h, _⟩ := hr.2 h0
        cases h
    obtain rfl : l = [] := List.eq_nil_of_length_eq_zero (by simpa using hr.1)
    clear hr
    go_enter Try.func7, Try.ntmps7
    go_wp2
    go_ret
    exact ⟨⟨_, rfl, World.ownsRow_nil _ _ _ _, by simp⟩, Below.refl _ _⟩
  · have own0 := World.ownsRow_made (base := w.heap.size) (e := 5) (size := 1) w #[] 0 (Nat.le_refl _) (by unfold maxLen; omega) rfl
    go_enter Try.func7, Try.ntmps7
    have hr1 := hr.alloc hB (.cells #[] 5)
    have b1 : 0 + n ≤ maxLen := by unfold maxLen; omega
    have b2 : (0 + n) * 1 ≤ 140737488355328 := by omega
    have b3 : w.heap.size ≤ (w.alloc (.cells #[] 5)).heap.size := by simp
    go_wp2_with (at_builtin; refine wpList_append_any _ rfl (.tmp 5) (.tmp 6) 22 rfl w.heap.size 5 i0 (.int .u8 0) 1 1 Try.underlying22 hi hz0 hz1 hz2 rfl (by decide) _ 0 [] rfl own0 B (some ad) n c l rfl hr1 h1 b1 b2 b3 ?_; rintro v1 w1 hown hg _ hnn)
    go_ret
    exact ⟨⟨v1, rfl, by simpa using hown, ⟨fun h => (by have h2 : Value.slice (some ⟨w.heap.size, 0, none⟩) 0 0 = .slice none 0 0 := (hnn.1 h).1; cases h2), nofun⟩⟩, (below_one w _).grown hg b3 (own_base own0)⟩

/-- bytes.Equal: the same bytes; nil is as empty. -/
def sameB (a b : List UInt8) : Bool := a == b
theorem sameB_self (a : List UInt8) : sameB a a = true := by simp [sameB]
theorem sameB_eq {a b : List UInt8} : sameB a b = true ↔ a = b := by simp [sameB]
theorem equal_u8 (A1 A2 : Option Addr) (n1 c1 n2 c2 B1 B2 : Nat) (l1 l2 : List UInt8) (w : World) (h1 : Reads w B1 1 A1 n1 (u8s l1)) (h2 : Reads w B2 1 A2 n2 (u8s l2)) :
    Calls Try.prog 10 #[.slice A1 n1 c1, .slice A2 n2 c2] w fun e w' => e = .returned (.bool (sameB l1 l2)) ∧ w = w' := by
  have k1 := run_convert_reads (P := Try.prog) w 22 5 Try.underlying22 Try.underlying5 B1 A1 n1 c1 l1 h1 9 Try.underlying9
  have k2 := run_convert_reads (P := Try.prog) w 22 5 Try.underlying22 Try.underlying5 B2 A2 n2 c2 l2 h2 9 Try.underlying9
  clear h1 h2
  go_enter Try.func10, Try.ntmps10
  go_wp2
  go_ret
  exact ⟨rfl, rfl⟩

theorem own_shape2 {w : World} {base size n : Nat} {e : TypeId} {v : Value} {xs : List Value} (h : w.ownsRow base e size v n xs) : ∃ A c, v = .slice A n c ∧ n ≤ c ∧ c ≤ 9223372036854775807 ∧ Reads w w.heap.size size A n xs := by
  obtain ⟨A, c, rfl, h1, h2⟩ := own_shape h
  refine ⟨A, c, rfl, h1, ?_, h2⟩
  rcases h.2 with ⟨h3, h4⟩ | ⟨g, cap, cur, h3, _, _, _, hm, _⟩
  · injection h3 with _ _ h5
    omega
  · injection h3 with _ _ h5
    unfold maxLen at hm
    omega
theorem encLen_any (p n : Nat) (w : World) (he : EncAt w p) (hn : n ≤ 1000) :
    Calls Try.prog 24 #[.pointer (some ⟨p, 0, none⟩), .int .i64 n] w fun e w' => e = .returned (.int .i64 ((n * 8 + 4) / 5 : Nat)) ∧ w' = w := by
  have c1 : w.cell? ⟨p, 257, none⟩ = some (.int .i32 (-1)) := (he.cell 257).trans (enc_pad _ _ _)
  have e1 : (((n * 8 + 4) / 5 : Nat) : Int) = ((n : Int) * 8 + 4) / 5 := by omega
  rw [e1]
  clear he e1
  go_enter Try.func24, Try.ntmps24
  go_wp2
  go_ret
  exact ⟨rfl, rfl⟩
theorem rawKey_any (s : ByteArray) (k : Nat) (x y : UInt8) (w : World) (hs : s.size = k + 1) (hx : s[0]'(by omega) = x) (hx47 : x.toNat = 47) (hy : s[k]'(by omega) = y) (hy47 : 0 < k → y.toNat ≠ 47) (hk : k ≤ 1000) :
    Calls Try.prog 18 #[.string s] w fun e w' => e = .returned (.agg #[.string s]) ∧ Below w.heap.size w w' := by
  have hb1 := below_one w (.cells #[.string s] 36)
  by_cases h0 : 0 < k
  · have h1 := hy47 h0
    have h2 : ¬ ((y.toNat : Int) = 47) := by omega
    clear hy47
    go_enter Try.func18, Try.ntmps18
    go_wp2
    refine bodyPost_ret (results_cell_row rfl _ _ _ _ _ _ _ rfl (Blk.new _ _ _) Try.underlying36 rfl (by kernel_rfl)) rfl ?_
    exact ⟨rfl, hb1⟩
  · have h1 : k = 0 := by omega
    subst h1
    clear hy47
    go_enter Try.func18, Try.ntmps18
    go_wp2
    refine bodyPost_ret (results_cell_row rfl _ _ _ _ _ _ _ rfl (Blk.new _ _ _) Try.underlying36 rfl (by kernel_rfl)) rfl ?_
    exact ⟨rfl, hb1⟩
theorem key_parts (l : List UInt8) : ∃ (k : Nat) (x y : UInt8) (hs : (keyTxt l).size = k + 1), k = (enc5 l).length ∧ (keyTxt l)[0]'(by omega) = x ∧ x.toNat = 47 ∧ (keyTxt l)[k]'(by omega) = y ∧ (0 < k → y.toNat ≠ 47) := by
  have hs : (keyTxt l).size = (enc5 l).length + 1 := by simp [keyTxt, ByteArray.size]
  refine ⟨_, _, _, hs, rfl, rfl, rfl, rfl, fun h => ?_⟩
  have h1 := data_at (keyTxt l) (enc5 l).length (by omega)
  have h2 : (keyTxt l).data.toList = 47 :: (enc5 l).map letter := by simp [keyTxt]
  rw [h2] at h1
  obtain ⟨m, hm⟩ : ∃ m, (enc5 l).length = m + 1 := ⟨_, (Nat.sub_add_cancel h).symm⟩
  generalize hy : (keyTxt l)[(enc5 l).length]'(by omega) = y at *
  rw [hm, List.getElem?_cons_succ, List.getElem?_map, List.getElem?_eq_getElem (by omega)] at h1
  injection h1 with h1
  rw [← h1]
  have h3 := enc5_lt l _ (List.getElem_mem (show m < (enc5 l).length by omega))
  exact (show ∀ k, k < 32 → (letter k).toNat ≠ 47 by decide) _ h3
set_option maxRecDepth 100000 in
set_option maxHeartbeats 4000000 in
theorem newKey_any (A : Option Addr) (n c B : Nat) (l : List UInt8) (w : World) (hr : Reads w B 1 A n (u8s l)) (hB : B ≤ w.heap.size) (hn : n ≤ 300) (hnc : n ≤ c) (hc : c ≤ 9223372036854775807) :
    Calls Try.prog 15 #[.slice A n c] w fun e w' => e = .returned (.agg #[.string (keyTxt l)]) ∧ Below w.heap.size w w' := by
  have hln : l.length = n := by have := hr.1; rw [u8s_length] at this; omega
  have hel := enc5_length l
  have HB0 := Lib.hid (below_one w (.cells #[.string ByteArray.empty] 36))
  have HK0 := Lib.hid (Blk.new w 36 #[.string ByteArray.empty])
  obtain ⟨m, hm⟩ : ∃ m, (n * 8 + 4) / 5 = m := ⟨_, rfl⟩
  have hm1 : m ≤ 480 := by omega
  have HM := Lib.hid hm
  have HR := Lib.hid hr
  have HEL : Hid ((enc5 l).length = m) := by show _ = _; omega
  have hmk := fun W : World => run_make_one (P := Try.prog) 22 5 (.int .u8 0) 1 Try.underlying22 infoU8 rfl (1 + m) (by omega) (by omega) W
  rw [show ((1 + m : Nat) : Int) = 1 + (m : Int) by omega] at hmk
  obtain ⟨Z, hZ⟩ : ∃ Z, madeCells #[.int .u8 0] (1 + m) = Z := ⟨_, rfl⟩
  rw [hZ] at hmk
  have hZ2 : Z = (u8s (0 :: List.replicate m 0)).toArray := by
    rw [← hZ]
    apply Array.toList_inj.1
    rw [madeCells_one, Nat.add_comm 1 m, List.replicate_succ]
    simp [u8s]
  have HBR : ∀ W : World, Hid (ByRow (W.alloc (.cells Z 5)) W.heap.size (0 :: List.replicate m 0)) := fun W => by
    show ByRow _ _ _
    rw [hZ2]
    exact Blk.byRow (Blk.new W _ _)
  have HBR2 : ∀ W : World, Hid (ByRow (W.alloc (.cells (Z.setIfInBounds 0 (.int .u8 47)) 5)) W.heap.size (47 :: List.replicate m 0)) := fun W => by
    show ByRow _ _ _
    rw [hZ2]
    refine Blk.byRow (t := 5) ?_
    have e : (u8s (0 :: List.replicate m 0)).toArray.setIfInBounds 0 (.int .u8 47) = (u8s (47 :: List.replicate m 0)).toArray := by
      rw [List.setIfInBounds_toArray]; rfl
    rw [e]
    exact Blk.new W _ _
  clear hr hln hel hm hZ hZ2
  go_enter Try.func15, Try.ntmps15
  go_upto_region 3 with (first | (go_at_call 23; refine (rawStd_any _).mono ?_; rintro e w1 ⟨⟨p1, rfl, hp1, he1⟩, hb1⟩; have HE1 := Lib.hid he1; have HB1 := Lib.hid (below_then HB0.out (by simp) hb1); have HK1 := Lib.hid (HK0.out.below hb1 HK0.out.lt); clear he1 hb1 hp1) | (go_at_call 24; refine (encLen_any p1 n _ HE1.out (by omega)).mono ?_; rw [HM.out]; rintro e w2 ⟨rfl, rfl⟩; have kc : (w2.alloc (.cells Z 5)).cell? ⟨w2.heap.size, 0, none⟩ = some (.int .u8 0) := ((HBR w2).out.at_ 0 0 rfl).1; have kf : (w2.alloc (.cells Z 5)).frozen? ⟨w2.heap.size, 0, none⟩ = false := ((HBR w2).out.at_ 0 0 rfl).2) | fail)
  have HB3 := Lib.hid (below_alloc HB1.out (.cells (Z.setIfInBounds 0 (.int .u8 47)) 5))
  have HK3 := Lib.hid (HK1.out.alloc (.cells (Z.setIfInBounds 0 (.int .u8 47)) 5))
  have HY3 := HBR2 w2
  have hg : w.heap.size < w2.heap.size := HK1.out.lt
  clear kc kf HBR HBR2 HB1 HK1 HE1 hmk HB0 HK0
  generalize w2.alloc (.cells (Z.setIfInBounds 0 (.int .u8 47)) 5) = w3 at *
  generalize w2.heap.size = g at *
  have hB3 : B ≤ w3.heap.size := by have := HY3.out.lt; omega
  have HR3 : Hid (Reads w3 B 1 A n (u8s l)) := HR.out.below (HB3.out.mono hB)
  have HAd : Hid (0 < n → ∀ ad, A = some ad → ad.block ≠ g) := by
    show _ → _
    intro h0 ad e
    obtain ⟨ad', e2, hb, _⟩ := HR.out.2 h0
    rw [e] at e2
    injection e2 with e2
    subst e2
    omega
  go_cut [3] from 12 (fun s3 wx => s3 = .slice (some ⟨g, 0, none⟩) (1 + m) (1 + m) ∧ Hid (ByRow wx g (row32 l)) ∧ Hid (Below w.heap.size w wx) ∧ Hid (Blk wx w.heap.size 36 #[.string ByteArray.empty]))
  case first =>
    by_cases hm0 : m = 0
    · subst hm0
      go_region_with (first | (go_at_call 23; refine (rawStd_any _).mono ?_; rintro e w4 ⟨⟨p4, rfl, hp4, he4⟩, hb4⟩; have HR4 : Hid (Reads w4 B 1 A n (u8s l)) := (show Reads w3.drew B 1 A n (u8s l) from HR3.out).below (hb4.mono hB3); have HY4 := Lib.hid (HY3.out.drew.below hb4); have HK4 := Lib.hid (HK3.out.drew.below hb4 HK3.out.lt); have HB4 := Lib.hid (below_then HB3.out.drew HB3.out.size hb4); have HE4 := Lib.hid he4; have hB4 : B ≤ w4.heap.size := Nat.le_trans hB3 hb4.size; have hpg : p4 ≠ g := Nat.ne_of_gt (Nat.lt_of_lt_of_le HY3.out.lt hp4); clear he4 hb4) | (go_at_call 25; refine (encode_any p4 g n 0 c _ B A _ l [47] w4 HR4.out HAd.out hB4 (by omega) hnc hc HE4.out hpg HY4.out (by rw [HEL.out]; first | rfl | (simp; omega)) rfl HEL.out.symm (fun h => absurd h (by omega)) (Nat.le_refl _) (by omega)).mono ?_; rintro e w5 ⟨rfl, hy5, hg5⟩; have HY5 := Lib.hid hy5; have HB5 := Lib.hid (HB4.out.grown hg5 HB4.out.size (fun k e => by injection e with e; omega)); have HK5 := Lib.hid (HK4.out.grown hg5 (fun e => by injection e with e; omega)); clear hy5 hg5) | fail)
      all_goals (go_wp2; go_meet; case rel => exact ⟨rfl, HY5.out, HB5.out, HK5.out⟩)
    · go_region_with (first | (go_at_call 23; refine (rawStd_any _).mono ?_; rintro e w4 ⟨⟨p4, rfl, hp4, he4⟩, hb4⟩; have HR4 : Hid (Reads w4 B 1 A n (u8s l)) := (show Reads w3.drew B 1 A n (u8s l) from HR3.out).below (hb4.mono hB3); have HY4 := Lib.hid (HY3.out.drew.below hb4); have HK4 := Lib.hid (HK3.out.drew.below hb4 HK3.out.lt); have HB4 := Lib.hid (below_then HB3.out.drew HB3.out.size hb4); have HE4 := Lib.hid he4; have hB4 : B ≤ w4.heap.size := Nat.le_trans hB3 hb4.size; have hpg : p4 ≠ g := Nat.ne_of_gt (Nat.lt_of_lt_of_le HY3.out.lt hp4); clear he4 hb4) | (go_at_call 25; refine (encode_any p4 g n m c _ B A _ l (47 :: List.replicate m 0) w4 HR4.out HAd.out hB4 (by omega) hnc hc HE4.out hpg HY4.out (by rw [HEL.out]; first | rfl | (simp; omega)) rfl HEL.out.symm (fun _ => rfl) (Nat.le_refl _) (by omega)).mono ?_; rintro e w5 ⟨rfl, hy5, hg5⟩; have HY5 := Lib.hid hy5; have HB5 := Lib.hid (HB4.out.grown hg5 HB4.out.size (fun k e => by injection e with e; omega)); have HK5 := Lib.hid (HK4.out.grown hg5 (fun e => by injection e with e; omega)); clear hy5 hg5) | fail)
      all_goals (go_wp2; go_meet; case rel => exact ⟨rfl, HY5.out, HB5.out, HK5.out⟩)
  case rest =>
    obtain ⟨rfl, HY5, HB5, HK5⟩ := hcut
    have hrd := HY5.out.reads
    have hl1 : (row32 l).length = 1 + m := by have := HEL.out; simp [row32]; omega
    rw [hl1] at hrd
    have kcv := run_convert_reads (P := Try.prog) wc 22 5 Try.underlying22 Try.underlying5 _ _ _ (1 + m) _ hrd 9 Try.underlying9
    rw [show (⟨(row32 l).toArray⟩ : ByteArray) = keyTxt l from rfl] at kcv
    obtain ⟨k, x, y, hs, hk, hx, hx47, hy, hy47⟩ := key_parts l
    have hkm : k = m := hk.trans HEL.out
    have HRK := Lib.hid (fun W => rawKey_any (keyTxt l) k x y W hs hx hx47 hy hy47 (by omega))
    have ck := HK5.out.cell 0
    have fk := HK5.out.frozen 0
    obtain ⟨s, hks⟩ : ∃ s, keyTxt l = s := ⟨_, rfl⟩
    rw [hks] at kcv
    have HRK2 : Hid (∀ W, Calls Try.prog 18 #[.string s] W fun e w' => e = .returned (.agg #[.string s]) ∧ Below W.heap.size W w') := by show ∀ W, _; rw [← hks]; exact HRK.out
    have HKS := Lib.hid hks
    clear hs hx hy hrd hl1 hy47 hks HRK
    go_wp2_with (first | (go_at_call 18; refine (HRK2.out _).mono ?_; rintro e w6 ⟨rfl, hb6⟩; have HK6 := Lib.hid (HK5.out.below hb6 HK5.out.lt); have HB6 := Lib.hid (below_then HB5.out HB5.out.size hb6); clear hb6; have ck6 := HK6.out.cell 0; have fk6 := HK6.out.frozen 0) | fail)
    refine bodyPost_ret (results_cell_row rfl _ _ _ _ _ _ _ rfl (HK6.out.set_ 0 (.string s)) Try.underlying36 rfl (by kernel_rfl)) rfl ?_
    exact ⟨by rw [HKS.out]; rfl, HB6.out.setCell (Nat.le_refl _) _⟩
theorem keyString_any (s : ByteArray) (w : World) :
    Calls Try.prog 16 #[.agg #[.string s]] w fun e w' => e = .returned (.string s) ∧ Below w.heap.size w w' := by
  go_enter Try.func16, Try.ntmps16
  go_wp2
  go_ret
  exact ⟨rfl, below_one _ _⟩
set_option maxRecDepth 100000 in
set_option maxHeartbeats 4000000 in
theorem keyOf_any (A : Option Addr) (n c B : Nat) (l : List UInt8) (w : World) (hr : Reads w B 1 A n (u8s l)) (hB : B ≤ w.heap.size) (hn : n ≤ 300) :
    Calls Try.prog 6 #[.slice A n c] w fun e w' => e = .returned (.string (keyTxt l)) ∧ Below w.heap.size w w' := by
  have HC := Lib.hid (clone_u8 A n c B (u8s l) w hr (u8s_one l) (by omega) hB)
  clear hr
  go_enter Try.func6, Try.ntmps6
  go_wp2_with (first | (go_at_call 7; refine HC.out.mono ?_; clear HC; rintro e w1 ⟨⟨v, rfl, hown, -⟩, hb1⟩; obtain ⟨A1, c1, rfl, hc1, hm1, hr1⟩ := own_shape2 hown; have HR1 := Lib.hid hr1; have HB1 := Lib.hid hb1; have HO1 := Lib.hid hown; clear hown hr1 hb1) | (go_at_call 15; refine (newKey_any A1 n c1 _ l _ HR1.out (Nat.le_refl _) hn hc1 hm1).mono ?_; rintro e w2 ⟨rfl, hb2⟩; have HB2 := Lib.hid (below_then HB1.out HB1.out.size hb2); clear hb2) | (go_at_call 16; refine (keyString_any _ _).mono ?_; rintro e w3 ⟨rfl, hb3⟩; have HB3 := Lib.hid (below_then HB2.out HB2.out.size hb3); clear hb3) | fail)
  go_ret
  exact ⟨rfl, HB3.out⟩
end Go.Proofs.Ytijbdinemjiepaa
