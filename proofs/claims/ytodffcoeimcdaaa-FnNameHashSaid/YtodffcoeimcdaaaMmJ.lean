/- murmur3: Sum64, Sum, the hash of a name. -/
import Derived.Test.YtodffcoeimcdaaaMmI
namespace Go.Proofs.Ytodffcoeimcdaaa
open Go.RowKit Go.Lib

set_option maxRecDepth 100000 in
set_option maxHeartbeats 8000000 in
theorem sum64_any (g n h k : Nat) (bs : List Value) (w : World) (ts : List UInt8) (d : Dig w g n (.slice (some ⟨g, 2, none⟩) ts.length 16) bs h k) (hs : Src w g 2 ts) (ht : ts.length < 16) (hn : n ≤ 5000) (lh : h < 18446744073709551616) (lk : k < 18446744073709551616) :
    Calls Try.prog 34 #[.pointer (some ⟨g, 0, none⟩)] w fun e w' => e = .returned (.int .u64 ((lastN (tailH h ts) (tailK k ts) n : Nat) : Int)) ∧ ∃ k, w' = w.drewN k := by
  have HS := Lib.hid (sum128_any g n h k bs w ts d hs ht hn lh lk)
  obtain ⟨x, hx⟩ : ∃ x, lastN (tailH h ts) (tailK k ts) n = x := ⟨_, rfl⟩
  rw [hx] at HS ⊢
  clear d hs hx
  go_enter Try.func34, Try.ntmps34
  go_wp2_with (first | (go_at_call 36; refine HS.out.mono ?_; rintro e w1 ⟨⟨v, rfl⟩, k1, rfl⟩) | fail)
  go_ret
  exact ⟨rfl, _, rfl⟩
theorem be8_cells (x : Nat) : u8s (be8 x) = [.int .u8 ((x : Int) / 72057594037927936 % 256), .int .u8 ((x : Int) / 281474976710656 % 256), .int .u8 ((x : Int) / 1099511627776 % 256), .int .u8 ((x : Int) / 4294967296 % 256), .int .u8 ((x : Int) / 16777216 % 256), .int .u8 ((x : Int) / 65536 % 256), .int .u8 ((x : Int) / 256 % 256), .int .u8 ((x : Int) % 256)] := by
  have e : ∀ n : Nat, ((UInt8.ofNat n).toNat : Int) = (n : Int) % 256 := fun n => by rw [UInt8.toNat_ofNat', Int.natCast_emod]; rfl
  simp only [u8s, be8, List.range, List.range.loop, List.map_cons, List.map_nil, e, Int.natCast_ediv]
  simp
set_option maxRecDepth 100000 in
set_option maxHeartbeats 8000000 in
theorem sum_any (g n h k : Nat) (bs : List Value) (w : World) (ts : List UInt8) (d : Dig w g n (.slice (some ⟨g, 2, none⟩) ts.length 16) bs h k) (hs : Src w g 2 ts) (ht : ts.length < 16) (hn : n ≤ 5000) (lh : h < 18446744073709551616) (lk : k < 18446744073709551616) :
    Calls Try.prog 33 #[.pointer (some ⟨g, 0, none⟩), .slice none 0 0] w (Owns w 5 1 8 (u8s (be8 (lastN (tailH h ts) (tailK k ts) n)))) := by
  obtain ⟨i0, hi, hz0, hz1, hz2⟩ := info_parts infoU8
  have HS := Lib.hid (sum64_any g n h k bs w ts d hs ht hn lh lk)
  obtain ⟨x, hx⟩ : ∃ x, lastN (tailH h ts) (tailK k ts) n = x := ⟨_, rfl⟩
  rw [hx] at HS ⊢
  have HRB : Hid (∀ k1, Reads ((w.drewN k1).alloc (.cells #[.int .u8 ((x : Int) / 72057594037927936 % 256), .int .u8 ((x : Int) / 281474976710656 % 256), .int .u8 ((x : Int) / 1099511627776 % 256), .int .u8 ((x : Int) / 4294967296 % 256), .int .u8 ((x : Int) / 16777216 % 256), .int .u8 ((x : Int) / 65536 % 256), .int .u8 ((x : Int) / 256 % 256), .int .u8 ((x : Int) % 256)] 5)) (w.heap.size + 1) 1 (some ⟨w.heap.size, 0, none⟩) 8 (u8s (be8 x))) := fun k1 => by
    rw [be8_cells]
    exact reads_lit (w.drewN k1) 5 [.int .u8 ((x : Int) / 72057594037927936 % 256), .int .u8 ((x : Int) / 281474976710656 % 256), .int .u8 ((x : Int) / 1099511627776 % 256), .int .u8 ((x : Int) / 4294967296 % 256), .int .u8 ((x : Int) / 16777216 % 256), .int .u8 ((x : Int) / 65536 % 256), .int .u8 ((x : Int) / 256 % 256), .int .u8 ((x : Int) % 256)]
  have HLO : Hid (∀ k1 o, Below w.heap.size w ((w.drewN k1).alloc o)) := fun k1 o => below_alloc (below_drewN (Below.refl _ _) k1) o
  clear d hs hx
  go_enter Try.func33, Try.ntmps33
  go_wp2_with (first | (go_at_call 34; refine HS.out.mono ?_; clear HS; rintro e w1 ⟨rfl, k1, rfl⟩) | (at_builtin; refine wpList_append_any _ rfl (.tmp 8) (.tmp 32) 23 rfl w.heap.size 5 i0 (.int .u8 0) 1 1 Try.underlying23 hi hz0 hz1 hz2 rfl (by decide) (.slice none 0 0) 0 [] rfl (World.ownsRow_nil _ _ _ _) (w.heap.size + 1) (some ⟨w.heap.size, 0, none⟩) 8 8 (u8s (be8 x)) rfl (HRB.out _) (u8s_one _) (by unfold maxLen; omega) (by omega) (by simp) ?_; rintro v1 w3 hown hgr _ -; have HW3 := Lib.hid hown; have HG3 := Lib.hid ((HLO.out _ _).grown hgr (by simp) (fun k e => by cases e)); clear hown hgr) | fail)
  go_ret
  exact ⟨⟨_, rfl, by simpa using HW3.out⟩, HG3.out⟩
/-- A slice that holds the hash of l. -/
structure HashIs (w : World) (l : List UInt8) (r : Ending) (w' : World) : Prop where
  ex : ∃ A c, r = .returned (.slice A 8 c) ∧ Reads w' w'.heap.size 1 A 8 (u8s (be8 (mur l)))
  below : Below w.heap.size w w'
set_option maxRecDepth 100000 in
set_option maxHeartbeats 8000000 in
theorem hash_any (b o n cp B : Nat) (l : List UInt8) (w : World) (hr : Reads w B 1 (some ⟨b, o, none⟩) n (u8s l)) (hn : n ≤ 5000) (hnc : n ≤ cp) (hB : B ≤ w.heap.size) (hb : b < w.heap.size) :
    Calls Try.prog 9 #[.slice (some ⟨b, o, none⟩) n cp] w (HashIs w l) := by
  have hln : l.length = n := by have := hr.1; rw [u8s_length] at this; omega
  have hm1 : ∀ (q : Nat) (W : World), (Go.method 176 41 (.pointer (some ⟨q, 0, none⟩)) "Write").run Try.prog W = .ok (35, .pointer (some ⟨q, 0, none⟩)) W := fun q W => by kernel_rfl
  have hm2 : ∀ (q : Nat) (W : World), (Go.method 176 41 (.pointer (some ⟨q, 0, none⟩)) "Sum").run Try.prog W = .ok (33, .pointer (some ⟨q, 0, none⟩)) W := fun q W => by kernel_rfl
  have hts : (l.drop (16 * (n / 16))).length = n % 16 := by rw [List.length_drop, hln]; omega
  have hmu : mur l = lastN (tailH (st l (n / 16)).1 (l.drop (16 * (n / 16)))) (tailK (st l (n / 16)).2 (l.drop (16 * (n / 16)))) n := by rw [mur, hln]
  have HR := Lib.hid hr
  have HTS := Lib.hid hts
  have HMU := Lib.hid hmu
  have hbn : b ≠ w.heap.size := Nat.ne_of_lt hb
  clear hr hln hts hmu
  go_enter Try.func9, Try.ntmps9
  go_wp2_with (first | (go_at_call 13; refine (new64_any _).mono ?_; rintro e w1 ⟨rfl, hd1, hb1⟩; have HD1 := Lib.hid hd1; have HB1 := Lib.hid hb1; clear hd1 hb1) | (go_at_call 35; refine (write_any w.heap.size b o n cp B w.heap.size l _ w HD1.out (HR.out.below (HB1.out.mono hB)) hn hnc hbn (Nat.le_trans hB HB1.out.size) HB1.out (Nat.le_refl _)).mono ?_; rintro e w2 ⟨⟨v2, rfl⟩, ⟨bs, hd2⟩, hs2, hb2⟩; rw [← HTS.out] at hd2; have HS := Lib.hid (sum_any w.heap.size n _ _ bs w2 _ hd2 hs2 (by rw [HTS.out]; omega) hn (st_lt l (n / 16)).1 (st_lt l (n / 16)).2); rw [← HMU.out] at HS; have HB2 := Lib.hid hb2; clear hd2 hs2 hb2) | (go_at_call 33; refine HS.out.mono ?_; rintro e w3 ⟨⟨v3, rfl, hown⟩, hb3⟩; have HW3 := Lib.hid hown; have HB3 := Lib.hid (below_then HB2.out HB2.out.size hb3); clear hown hb3) | fail)
  go_ret
  obtain ⟨A3, c3, rfl, _, hr3⟩ := own_shape HW3.out
  exact ⟨⟨A3, c3, rfl, hr3⟩, HB3.out⟩
set_option maxRecDepth 100000 in
set_option maxHeartbeats 8000000 in
theorem hamtName_any (s : ByteArray) (w : World) (hs : s.size ≤ 5000) : Calls Try.prog 7 #[.string s] w (HashIs w s.data.toList) := by
  have hcv := fun W : World => Lib.run_convert_string_bytes (P := Try.prog) W 9 23 5 s Try.underlying9 Try.underlying23 Try.underlying5
  have hc1 := grownCap_ge w s.size 0 5
  have hrow := row_bytes w s
  have hrd := hrow.reads
  rw [show s.data.toList.length = s.size from Array.length_toList] at hrd
  have HM := Lib.hid (hash_any w.heap.size 0 s.size (grownCap w s.size 0 5) _ s.data.toList (Lib.bytesWorld w 5 s) hrd hs hc1 (Nat.le_refl _) hrow.lt)
  have HW := Lib.hid (below_bytes w s)
  clear hrd hrow
  go_enter Try.func7, Try.ntmps7
  go_wp2_with (first | (go_at_call 9; refine HM.out.mono ?_; clear HM; rintro e w1 ⟨⟨A1, c1, rfl, hr1⟩, hb1⟩; have HR1 := Lib.hid hr1; have HB1 := Lib.hid (below_then HW.out HW.out.size hb1); clear hr1 hb1) | fail)
  go_ret
  exact ⟨⟨_, _, rfl, HR1.out⟩, HB1.out⟩
set_option maxRecDepth 100000 in
set_option maxHeartbeats 8000000 in
theorem implName_any (s : ByteArray) (w : World) (hs : s.size ≤ 5000) : Calls Try.prog 5 #[.string s] w (HashIs w s.data.toList) := by
  have HM := Lib.hid (hamtName_any s w hs)
  go_enter Try.func5, Try.ntmps5
  go_wp2_with (first | (go_at_call 7; refine HM.out.mono ?_; clear HM; rintro e w1 ⟨⟨A1, c1, rfl, hr1⟩, hb1⟩; have HR1 := Lib.hid hr1; have HB1 := Lib.hid hb1; clear hr1 hb1) | fail)
  go_ret
  exact ⟨⟨_, _, rfl, HR1.out⟩, HB1.out⟩
set_option maxRecDepth 100000 in
set_option maxHeartbeats 8000000 in
theorem name_any (s : ByteArray) (w : World) : Calls Try.prog 3 #[.string s] w fun e w' => e = .returned (.bool true) ∧ Below w.heap.size w w' := by
  by_cases h2 : (s.size : Int) ≤ 2147483647
  · by_cases h1 : (s.size : Int) ≤ 5000
    · have HI := Lib.hid (implName_any s w (by omega))
      have HS := Lib.hid (fun W => specName_any s W (by omega))
      go_enter Try.func3, Try.ntmps3
      go_wp2_with (first | (go_at_call 5; refine HI.out.mono ?_; clear HI; rintro e w1 ⟨⟨A1, c1, rfl, hr1⟩, hb1⟩; have HR1 := Lib.hid hr1; have HB1 := Lib.hid hb1; clear hr1 hb1) | (go_at_call 6; refine (HS.out _).mono ?_; clear HS; rintro e w2 ⟨g2, rfl, hy2, hb2⟩; have HR2 := Lib.hid (HR1.out.below hb2); have HY2 := Lib.hid hy2.reads; have HB2 := Lib.hid (below_then HB1.out HB1.out.size hb2); clear hy2 hb2) | (go_at_call 4; refine (equal_u8 A1 _ 8 c1 8 8 _ _ (be8 (mur s.data.toList)) (be8 (mur s.data.toList)) w2 HR2.out HY2.out).mono ?_; rw [sameB_self]; rintro e w3 ⟨rfl, rfl⟩) | fail)
      go_ret
      exact ⟨rfl, HB2.out⟩
    · have hz : (⟨#[97]⟩ : ByteArray).size ≤ 5000 := by decide
      have HI := Lib.hid (implName_any ⟨#[97]⟩ w hz)
      have HS := Lib.hid (fun W => specName_any ⟨#[97]⟩ W hz)
      clear hz
      go_enter Try.func3, Try.ntmps3
      go_wp2_with (first | (go_at_call 5; refine HI.out.mono ?_; clear HI; rintro e w1 ⟨⟨A1, c1, rfl, hr1⟩, hb1⟩; have HR1 := Lib.hid hr1; have HB1 := Lib.hid hb1; clear hr1 hb1) | (go_at_call 6; refine (HS.out _).mono ?_; clear HS; rintro e w2 ⟨g2, rfl, hy2, hb2⟩; have HR2 := Lib.hid (HR1.out.below hb2); have HY2 := Lib.hid hy2.reads; have HB2 := Lib.hid (below_then HB1.out HB1.out.size hb2); clear hy2 hb2) | (go_at_call 4; refine (equal_u8 A1 _ 8 c1 8 8 _ _ (be8 (mur [97])) (be8 (mur [97])) w2 HR2.out HY2.out).mono ?_; rw [sameB_self]; rintro e w3 ⟨rfl, rfl⟩) | fail)
      go_ret
      exact ⟨rfl, HB2.out⟩
  · go_enter Try.func3, Try.ntmps3
    go_wp2
    go_ret
    exact ⟨rfl, Below.refl _ _⟩
theorem name_row (s : ByteArray) (w : World) (_ : s.size ≤ 140737488351232) : Calls Try.prog 3 #[.string s] w fun e w' => e = .returned (.bool true) ∧ Below w.heap.size w w' := name_any s w
end Go.Proofs.Ytodffcoeimcdaaa
