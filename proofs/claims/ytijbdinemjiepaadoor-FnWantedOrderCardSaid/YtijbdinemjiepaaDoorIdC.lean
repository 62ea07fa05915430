/- Identifiers of the version 0: gomultihash.Cast, CidFromBytes, Cast. -/
import Derived.Test.YtijbdinemjiepaaDoorIdI
namespace Go.Proofs.YtijbdinemjiepaaDoor
open Go.RowKit

set_option maxRecDepth 100000 in
set_option maxHeartbeats 1000000 in
theorem readHash2_any (code : Nat) (d : List UInt8) (b o n c B : Nat) (w : World) (hx : code < 2097152) (hd : d.length ≤ 1000) (hr : Reads w B 1 (some ⟨b, o, none⟩) n (u8s (mhash code d))) (hnc : n ≤ c) :
    Calls Tryd.prog 84 #[.slice (some ⟨b, o, none⟩) n c] w fun e w' => (∃ A k c, e = .returned (.tuple #[.int .i64 n, .int .u64 code, .slice A k c, .nilIface])) ∧ ∃ k, w' = w.drewN k := by
  have hln : (mhash code d).length = n := by have := hr.1; rw [u8s_length] at this; omega
  have hp1 := uv_pos code
  have hp2 := uv_pos d.length
  have hle1 := uv_le code (by omega)
  have hle2 := uv_le d.length (by omega)
  have hlen : (uv code).length + ((uv d.length).length + d.length) = n := by rw [← hln, mhash, List.length_append, List.length_append]
  have hn2 : n ≤ 2000 := by omega
  have H1 := Lib.hid (mhUvarint_any code b o n c B (mhash code d) (uv d.length ++ d) w hx rfl hr hnc (by omega))
  have hl2 : (uv d.length ++ d).length = (uv d.length).length + d.length := by rw [List.length_append]
  rw [hl2] at H1
  have H2 : Hid (∀ (o' dd : Nat) (W : World), Reads W B 1 (some ⟨b, o', none⟩) ((uv d.length).length + d.length) (u8s (uv d.length ++ d)) → (uv d.length).length + d.length ≤ dd → _) := fun o' dd W h1 h2 => mhUvarint_any d.length b o' _ dd B (uv d.length ++ d) d W (by omega) rfl h1 h2 (by omega)
  clear hr hln hl2
  generalize (uv code).length = k1 at *
  generalize hk2 : (uv d.length).length = k2 at *
  go_enter Tryd.func84, Tryd.ntmps84
  go_wp2_with (first | (go_at_call 92; refine H1.out.mono ?_; clear H1; rintro e w1 ⟨⟨o1, d1, rfl, hd1, hr1⟩, k, rfl⟩; have HR1 := Lib.hid hr1; clear hr1) | (go_at_call 92; refine (H2.out o1 d1 _ HR1.out hd1).mono ?_; clear H2; rintro e w2 ⟨⟨o2, d2, rfl, hd2, hr2⟩, m, rfl⟩; clear hr2) | fail)
  go_quiet (fail)
  go_wp2
  (try simp only [Exit.inBlock, Exit.then])
  refine bodyPost_ret (results_tmp4 rfl _ _ _) rfl ?_
  exact ⟨⟨_, _, _, rfl⟩, by first | exact ⟨_, rfl⟩ | exact ⟨_, World.drewN_drewN _ _ _⟩ | exact ⟨_, by rw [World.drewN_drewN, World.drewN_drewN]⟩⟩
set_option maxRecDepth 100000 in
set_option maxHeartbeats 4000000 in
theorem mhDecode_any (code : Nat) (d : List UInt8) (b o n c B : Nat) (w : World) (hx : code < 2097152) (hd : d.length ≤ 1000) (hr : Reads w B 1 (some ⟨b, o, none⟩) n (u8s (mhash code d))) (hnc : n ≤ c) (hB : B ≤ w.heap.size) :
    Calls Tryd.prog 91 #[.slice (some ⟨b, o, none⟩) n c] w fun e w' => (∃ A k c2, e = .returned (.tuple #[.agg #[.int .u64 code, .string ByteArray.empty, .int .i64 (k : Nat), .slice A k c2], .nilIface])) ∧ Below w.heap.size w w' := by
  have hz := hr.alloc hB (.cells #[.int .u64 0, .string ByteArray.empty, .int .i64 0, .slice none 0 0] 180)
  have HR := Lib.hid (readHash2_any code d b o n c B _ hx hd hz hnc)
  clear hr hz
  go_enter Tryd.func91, Tryd.ntmps91
  go_wp2_with (first | (go_at_call 84; refine HR.out.mono ?_; rintro e w1 ⟨⟨A1, k1, c1, rfl⟩, m, rfl⟩) | fail)
  have HB := Lib.hid (Blk.new w 180 #[.int .u64 0, .string ByteArray.empty, .int .i64 0, .slice none 0 0])
  have HW := Lib.hid (below_one w (.cells #[.int .u64 0, .string ByteArray.empty, .int .i64 0, .slice none 0 0] 180))
  have HB1 := Lib.hid ((HB.out.drewN m).set_ 0 (.int .u64 code) |>.set_ 1 (.string ByteArray.empty) |>.set_ 2 (.int .i64 k1) |>.set_ 3 (.slice A1 k1 c1))
  have HB2 := Lib.hid (HB1.out.set_ 0 (.int .u64 code) |>.set_ 1 (.string ByteArray.empty) |>.set_ 2 (.int .i64 k1) |>.set_ 3 (.slice A1 k1 c1))
  refine bodyPost_ret (results_cell_then rfl _ _ _ _ _ _ _ rfl HB2.out Tryd.underlying180 rfl (by kernel_rfl)) rfl ?_
  refine ⟨⟨A1, k1, c1, rfl⟩, ?_⟩
  exact ((((((((below_drewN HW.out m).setCell (Nat.le_refl _) _).setCell (Nat.le_refl _) _).setCell (Nat.le_refl _) _).setCell (Nat.le_refl _) _).setCell (Nat.le_refl _) _).setCell (Nat.le_refl _) _).setCell (Nat.le_refl _) _).setCell (Nat.le_refl _) _
set_option maxRecDepth 100000 in
set_option maxHeartbeats 4000000 in
theorem mhDecodeP_any (code : Nat) (d : List UInt8) (b o n c B : Nat) (w : World) (hx : code < 2097152) (hd : d.length ≤ 1000) (hr : Reads w B 1 (some ⟨b, o, none⟩) n (u8s (mhash code d))) (hnc : n ≤ c) (hB : B ≤ w.heap.size) :
    Calls Tryd.prog 83 #[.slice (some ⟨b, o, none⟩) n c] w fun e w' => (∃ v, e = .returned (.tuple #[v, .nilIface])) ∧ Below w.heap.size w w' := by
  have HD := Lib.hid (mhDecode_any code d b o n c B w hx hd hr hnc hB)
  clear hr
  go_enter Tryd.func83, Tryd.ntmps83
  go_wp2_with (first | (go_at_call 91; refine HD.out.mono ?_; rintro e w1 ⟨⟨A, k, c2, rfl⟩, hb1⟩; have HB1 := Lib.hid hb1; clear hb1) | fail)
  go_ret2
  refine ⟨⟨_, rfl⟩, ?_⟩
  repeat (first | exact below_alloc HB1.out _ | refine Below.setCell ?_ HB1.out.size _)
set_option maxRecDepth 100000 in
set_option maxHeartbeats 4000000 in
theorem mhCast_any (code : Nat) (d : List UInt8) (b o n c B : Nat) (w : World) (hx : code < 2097152) (hd : d.length ≤ 1000) (hr : Reads w B 1 (some ⟨b, o, none⟩) n (u8s (mhash code d))) (hnc : n ≤ c) (hB : B ≤ w.heap.size) :
    Calls Tryd.prog 66 #[.slice (some ⟨b, o, none⟩) n c] w fun e w' => e = .returned (.tuple #[.slice (some ⟨b, o, none⟩) n c, .nilIface]) ∧ Below w.heap.size w w' := by
  have HD := Lib.hid (mhDecodeP_any code d b o n c B w hx hd hr hnc hB)
  clear hr
  go_enter Tryd.func66, Tryd.ntmps66
  go_wp2_with (first | (go_at_call 83; refine HD.out.mono ?_; rintro e w1 ⟨⟨v, rfl⟩, hb1⟩; have HB1 := Lib.hid hb1; clear hb1) | fail)
  go_ret2
  exact ⟨rfl, HB1.out⟩
/-- An identifier of the version 0. -/
def zeroB (v : UInt8) : List UInt8 := 18 :: 32 :: hsh v
theorem zeroB_hash (v : UInt8) : mhash 18 (hsh v) = zeroB v := by
  rw [mhash, hsh_length, uv_small (show 18 < 128 by omega), uv_small (show 32 < 128 by omega)]
  rfl
set_option maxRecDepth 100000 in
set_option maxHeartbeats 4000000 in
theorem cidFrom0_any (v : UInt8) (b o c B : Nat) (w : World) (hr : Reads w B 1 (some ⟨b, o, none⟩) 34 (u8s (zeroB v))) (hnc : 34 ≤ c) (hB : B ≤ w.heap.size) :
    Calls Tryd.prog 57 #[.slice (some ⟨b, o, none⟩) 34 c] w fun e w' => e = .returned (.tuple #[.int .i64 34, .agg #[.string ⟨(zeroB v).toArray⟩], .nilIface]) ∧ Below w.heap.size w w' := by
  have hbw := below_one w (.cells #[.string ByteArray.empty] 72)
  have hr1 := hr.below (hbw.mono hB)
  obtain ⟨b', o', hA, _, hc⟩ := hr.lit (k := 0) (by omega)
  obtain ⟨rfl, rfl⟩ : b' = b ∧ o' = o := by injection hA with hA; injection hA with e1 e2; exact ⟨e1.symm, e2.symm⟩
  have k0 : w.cell? ⟨b', o', none⟩ = some (.int .u8 18) := by have := hc 0 _ rfl; rwa [Nat.add_zero] at this
  have k1 : w.cell? ⟨b', o' + 1, none⟩ = some (.int .u8 32) := hc 1 _ rfl
  have hblt : b' < w.heap.size := World.block_lt_of_cell? w _ k0
  have HM := Lib.hid (mhCast_any 18 (hsh v) b' o' 34 c B _ (by omega) (by rw [hsh_length]; omega) (by rw [zeroB_hash]; exact hr1) hnc (by simp; omega))
  have HR := Lib.hid hr1
  have HW := Lib.hid hbw
  have hc34 : (34 : Int) ≤ (c : Int) := by omega
  have hB1 : B ≤ (w.alloc (.cells #[.string ByteArray.empty] 72)).heap.size := by simp; omega
  obtain ⟨Z, hZ⟩ : ∃ Z, zeroB v = Z := ⟨_, rfl⟩
  rw [hZ] at HR ⊢
  clear hr hr1 hc hbw hA hZ
  go_enter Tryd.func57, Tryd.ntmps57
  go_wp2_with (first | (go_at_call 66; refine HM.out.mono ?_; clear HM; rintro e w1 ⟨rfl, hb1⟩; have hz1 : w.heap.size < w1.heap.size := (by have h := hb1.size; simp at h; omega); have hbl := (Blk.new w 72 #[.string ByteArray.empty]).below hb1 (by simp); have c0 : w1.cell? ⟨w.heap.size, 0, none⟩ = some (.string ByteArray.empty) := hbl.cell 0; have f0 : w1.frozen? ⟨w.heap.size, 0, none⟩ = false := hbl.frozen 0; have HBL := Lib.hid hbl; have hr2 := HR.out.below (hb1.mono hB1); have hq := run_convert_reads (P := Tryd.prog) w1.drew 146 5 Tryd.underlying146 Tryd.underlying5 B (some ⟨b', o', none⟩) 34 c _ (show Reads w1.drew _ _ _ _ _ from hr2) 9 Tryd.underlying9; have HB1 := Lib.hid (below_then HW.out (by simp) hb1); clear hb1 hbl hr2) | fail)
  go_region
  have HBLK := Lib.hid (HBL.out.drew.set_ 0 (.string ⟨Z.toArray⟩))
  go_wp2
  (try simp only [Exit.inBlock, Exit.then])
  refine bodyPost_ret (results_mid rfl _ _ _ _ _ _ _ rfl HBLK.out Tryd.underlying72 rfl (by kernel_rfl)) rfl ?_
  exact ⟨rfl, HB1.out.drew.setCell (Nat.le_refl _) _⟩
set_option maxRecDepth 100000 in
set_option maxHeartbeats 2000000 in
theorem cast0_any (v : UInt8) (b o c B : Nat) (w : World) (hr : Reads w B 1 (some ⟨b, o, none⟩) 34 (u8s (zeroB v))) (hnc : 34 ≤ c) (hB : B ≤ w.heap.size) :
    Calls Tryd.prog 38 #[.slice (some ⟨b, o, none⟩) 34 c] w fun e w' => e = .returned (.tuple #[.agg #[.string ⟨(zeroB v).toArray⟩], .nilIface]) ∧ Below w.heap.size w w' := by
  have hr1 := hr.alloc hB (.cells #[.string ByteArray.empty] 72)
  have HF := Lib.hid (cidFrom0_any v b o c B _ hr1 hnc (by simp; omega))
  clear hr hr1
  go_enter Tryd.func38, Tryd.ntmps38
  go_wp2_with (first | (go_at_call 57; refine HF.out.mono ?_; rintro e w1 ⟨rfl, hb1⟩; have hz1 : w.heap.size < w1.heap.size := (by have h := hb1.size; simp at h; omega); have k0 : w1.cell? ⟨w.heap.size, 0, none⟩ = some (.string ByteArray.empty) := (hb1.cell (p := ⟨w.heap.size, 0, none⟩) (by simp)).trans (by simp [World.cell?_alloc_new]); have hbl := (Blk.new w 72 #[.string ByteArray.empty]).below hb1 (by simp); have f0 : w1.frozen? ⟨w.heap.size, 0, none⟩ = false := hbl.frozen 0; have HBL := Lib.hid hbl; have HB1 := Lib.hid hb1; clear hb1 hbl) | fail)
  have hbk := (HBL.out.set_ 0 (.string ⟨(zeroB v).toArray⟩)).alloc (.cells #[.string ⟨(zeroB v).toArray⟩] 72)
  (try simp only [Exit.inBlock, Exit.then])
  refine bodyPost_ret (results_cell_then rfl _ _ _ _ _ _ _ rfl hbk Tryd.underlying72 rfl (by kernel_rfl)) rfl ?_
  exact ⟨rfl, below_alloc ((below_then (below_one w _) (by simp) HB1.out).setCell (Nat.le_refl _) _) _⟩
/-- Any identifier is read as its own bytes. -/
theorem castId_any (n b o c B : Nat) (w : World) (hr : Reads w B 1 (some ⟨b, o, none⟩) (identB n).length (u8s (identB n))) (hnc : (identB n).length ≤ c) (hB : B ≤ w.heap.size) :
    Calls Tryd.prog 38 #[.slice (some ⟨b, o, none⟩) (identB n).length c] w fun e w' => e = .returned (.tuple #[.agg #[.string ⟨(identB n).toArray⟩], .nilIface]) ∧ Below w.heap.size w w' := by
  have h1 : ∀ k : UInt8, cidBytes k 18 (hsh (UInt8.ofNat (n / 3))) = [1, k] ++ zeroB (UInt8.ofNat (n / 3)) := fun k => by
    rw [cidBytes, zeroB_hash]
    rfl
  obtain h | h | h : n % 3 = 0 ∨ n % 3 = 1 ∨ n % 3 = 2 := by omega
  · have e : identB n = zeroB (UInt8.ofNat (n / 3)) := by unfold identB zeroB; rw [if_pos h]; rfl
    have el : (identB n).length = 34 := by rw [e, zeroB]; simp [hsh]
    rw [el] at hr hnc ⊢
    rw [e] at hr ⊢
    exact cast0_any _ b o c B w hr hnc hB
  · have e : identB n = cidBytes 112 18 (hsh (UInt8.ofNat (n / 3))) := by rw [h1]; unfold identB zeroB; rw [if_neg (by omega), if_pos h]
    rw [e] at hr hnc ⊢
    exact cast_any 112 18 _ b o _ c B w (by decide) (by omega) (by rw [hsh_length]; omega) hr hnc hB
  · have e : identB n = cidBytes 85 18 (hsh (UInt8.ofNat (n / 3))) := by rw [h1]; unfold identB zeroB; rw [if_neg (by omega), if_neg (by omega)]
    rw [e] at hr hnc ⊢
    exact cast_any 85 18 _ b o _ c B w (by decide) (by omega) (by rw [hsh_length]; omega) hr hnc hB
end Go.Proofs.YtijbdinemjiepaaDoor
