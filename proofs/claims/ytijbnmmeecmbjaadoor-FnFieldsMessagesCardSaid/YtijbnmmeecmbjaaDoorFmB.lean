/- Contracts of unixfs.WrapData, SymlinkData and HAMTShardData, and of the thin package's Wrapped, LinkData, ShardData and FileData: each makes the bytes of the plain message. -/
import Derived.BigQuiet
import Derived.Test.YtijbnmmeecmbjaaDoorFmA
namespace Go.Proofs.YtijbnmmeecmbjaaDoor
open Go.RowKit

theorem Reads.setFar {w : World} {B size n : Nat} {A : Option Addr} {xs : List Value} (h : Reads w B size A n xs) {p : Addr} (hp : ∀ ad, A = some ad → ad.block ≠ p.block) (u : Value) : Reads (w.setCell p u) B size A n xs :=
  ⟨h.1, fun hn => by
    obtain ⟨ad, e, hb, hc⟩ := h.2 hn
    have hne := hp ad e
    exact ⟨ad, e, hb, fun j v hv => (World.cell?_of_block (Below.heap_setCell w p u _ (by rw [block_of_add]; exact hne))).trans (hc j v hv)⟩⟩
theorem OptSl.shape {w : World} {B : Nat} {v : Value} {d : List UInt8} (h : OptSl w B v (some d)) : ∃ A c, v = .slice A d.length c ∧ OptSl w B (.slice A d.length c) (some d) := by
  obtain ⟨A, c, rfl, h2, h3, h4⟩ := h
  exact ⟨A, c, rfl, A, c, rfl, h2, h3, h4⟩
set_option maxRecDepth 100000 in
set_option maxHeartbeats 2000000 in
theorem wrapData_any (v : Value) (B0 : Nat) (d : List UInt8) (w : World) (h : OptSl w B0 v (some d)) (hB : B0 ≤ w.heap.size) (hs : d.length ≤ 2000) :
    Calls Tryd.prog 37 #[v] w (Bytes w (msgBytes ⟨0, some d, some d.length, none, none⟩)) := by
  obtain ⟨A, c, rfl, hv⟩ := h.shape
  clear h
  obtain ⟨n, hn⟩ : ∃ n, d.length = n := ⟨_, rfl⟩
  rw [hn] at hv hs ⊢
  obtain ⟨C, hC⟩ : ∃ C : Array Value, C = #[.pointer (some ⟨w.heap.size + 1, 0, none⟩), .slice A n c, .pointer (some ⟨w.heap.size + 1 + 1, 0, none⟩), .slice none 0 0, .pointer none, .pointer none, .slice none 0 0, .int .i32 0] := ⟨_, rfl⟩
  have b1 := Blk.new w 72 C
  have b2 := Blk.new (w.alloc (.cells C 72)) 75 #[.int .i32 0]
  rw [sz1] at b2
  have b3 := Blk.new ((w.alloc (.cells C 72)).alloc (.cells #[.int .i32 0] 75)) 25 #[.int .u64 (n : Int)]
  rw [sz1, sz1] at b3
  have hbl := below_alloc (below_alloc (below_one w (.cells C 72)) (.cells #[.int .i32 0] 75)) (.cells #[.int .u64 (n : Int)] 25)
  have hb1 := (b1.alloc (.cells #[.int .i32 0] 75)).alloc (.cells #[.int .u64 (n : Int)] 25)
  have hb2 := b2.alloc (.cells #[.int .u64 (n : Int)] 25)
  rw [hC] at hb1 hb2 b3 hbl
  have hobj := dobj_of (B := w.heap.size + 3) (ty := 0) (data := some d) (fs := some n) (hash := none) (fan := none) hb1 hb2 (by omega) (by omega) ((hv.below (hbl.mono hB)).more (by omega)) (.of_blk b3 (by omega) (by omega)) (.no _ _) (.no _ _)
  have HM := Lib.hid (marshal_any _ _ _ _ hobj ⟨by show 0 < 128; decide, by show d.length ≤ 2000; omega⟩ (by simp))
  have HBL := Lib.hid hbl
  have hcv : IntKind.u64.wrap (n : Int) = n := IntWalk.u64_in _ ⟨by omega, by omega⟩
  clear b1 b2 b3 hbl hobj hC hb1 hb2 hv hn
  go_enter Tryd.func37, Tryd.ntmps37
  go_wp2_with (first | (go_at_call 45; refine (uint64_any _ _).mono ?_; rintro e w1 ⟨rfl, rfl⟩) | (go_at_call 44; refine HM.out.mono ?_; rintro e w2 ⟨⟨v2, rfl, hw2⟩⟩; obtain ⟨g2, c2, hv2, -⟩ := hw2.ex; have HW2 := Lib.hid hw2; clear hw2; subst hv2) | fail)
  go_ret
  exact ⟨⟨_, rfl, HW2.out.after HBL.out⟩⟩
set_option maxRecDepth 100000 in
set_option maxHeartbeats 2000000 in
theorem shardData_any (v : Value) (B0 fan hash : Nat) (d : List UInt8) (w : World) (h : OptSl w B0 v (some d)) (hB : B0 ≤ w.heap.size) (hs : d.length ≤ 2000) (hf : fan < 18446744073709551616) (hh : hash < 18446744073709551616) :
    Calls Tryd.prog 33 #[v, .int .u64 (fan : Int), .int .u64 (hash : Int)] w (Marshalled w (msgBytes ⟨5, some d, none, some hash, some fan⟩)) := by
  obtain ⟨A, c, rfl, hv⟩ := h.shape
  clear h
  obtain ⟨n, hn⟩ : ∃ n, d.length = n := ⟨_, rfl⟩
  rw [hn] at hv hs ⊢
  obtain ⟨C, hC⟩ : ∃ C : Array Value, C = #[.pointer (some ⟨w.heap.size + 1, 0, none⟩), .slice A n c, .pointer none, .slice none 0 0, .pointer (some ⟨w.heap.size + 1 + 1, 0, none⟩), .pointer (some ⟨w.heap.size + 1 + 1 + 1, 0, none⟩), .slice none 0 0, .int .i32 0] := ⟨_, rfl⟩
  have b1 := Blk.new w 72 C
  have b2 := Blk.new (w.alloc (.cells C 72)) 75 #[.int .i32 5]
  rw [sz1] at b2
  have b3 := Blk.new ((w.alloc (.cells C 72)).alloc (.cells #[.int .i32 5] 75)) 25 #[.int .u64 (hash : Int)]
  rw [sz1, sz1] at b3
  have b4 := Blk.new (((w.alloc (.cells C 72)).alloc (.cells #[.int .i32 5] 75)).alloc (.cells #[.int .u64 (hash : Int)] 25)) 25 #[.int .u64 (fan : Int)]
  rw [sz1, sz1, sz1] at b4
  have hbl := below_alloc (below_alloc (below_alloc (below_one w (.cells C 72)) (.cells #[.int .i32 5] 75)) (.cells #[.int .u64 (hash : Int)] 25)) (.cells #[.int .u64 (fan : Int)] 25)
  have hb1 := ((b1.alloc (.cells #[.int .i32 5] 75)).alloc (.cells #[.int .u64 (hash : Int)] 25)).alloc (.cells #[.int .u64 (fan : Int)] 25)
  have hb2 := (b2.alloc (.cells #[.int .u64 (hash : Int)] 25)).alloc (.cells #[.int .u64 (fan : Int)] 25)
  have hb3 := b3.alloc (.cells #[.int .u64 (fan : Int)] 25)
  rw [hC] at hb1 hb2 hb3 b4 hbl
  have hobj := dobj_of (B := w.heap.size + 4) (ty := 5) (data := some d) (fs := none) (hash := some hash) (fan := some fan) hb1 hb2 (by omega) (by omega) ((hv.below (hbl.mono hB)).more (by omega)) (.no _ _) (.of_blk hb3 (by omega) hh) (.of_blk b4 (by omega) hf)
  have HM := Lib.hid (marshal_any _ _ _ _ hobj ⟨by show 5 < 128; decide, by show d.length ≤ 2000; omega⟩ (by simp))
  have HBL := Lib.hid hbl
  clear b1 b2 b3 b4 hbl hobj hC hb1 hb2 hb3 hv hn hf hh
  go_enter Tryd.func33, Tryd.ntmps33
  go_wp2_with (first | (go_at_call 45; refine (uint64_any _ _).mono ?_; rintro e w1 ⟨rfl, rfl⟩) | (go_at_call 44; refine HM.out.mono ?_; rintro e w2 ⟨⟨v2, rfl, hw2⟩⟩; obtain ⟨g2, c2, hv2, -⟩ := hw2.ex; have HW2 := Lib.hid hw2; clear hw2; subst hv2) | fail)
  go_ret2
  exact ⟨⟨_, rfl, HW2.out.after HBL.out⟩⟩
set_option maxRecDepth 100000 in
set_option maxHeartbeats 2000000 in
theorem symData_any (s : ByteArray) (w : World) (hs : s.size ≤ 2000) :
    Calls Tryd.prog 32 #[.string s] w (Marshalled w (msgBytes ⟨4, some s.data.toList, none, none, none⟩)) := by
  have b1 := (Blk.new w 72 #[.pointer none, .slice none 0 0, .pointer none, .slice none 0 0, .pointer none, .pointer none, .slice none 0 0, .int .i32 0]).alloc (.cells #[.int .i32 4] 75)
  have b2 := Blk.new (w.alloc (.cells #[.pointer none, .slice none 0 0, .pointer none, .slice none 0 0, .pointer none, .pointer none, .slice none 0 0, .int .i32 0] 72)) 75 #[.int .i32 4]
  rw [sz1] at b2
  have hbl := below_alloc (below_one w (.cells #[.pointer none, .slice none 0 0, .pointer none, .slice none 0 0, .pointer none, .pointer none, .slice none 0 0, .int .i32 0] 72)) (.cells #[.int .i32 4] 75)
  have hz2 : ((w.alloc (.cells #[.pointer none, .slice none 0 0, .pointer none, .slice none 0 0, .pointer none, .pointer none, .slice none 0 0, .int .i32 0] 72)).alloc (.cells #[.int .i32 4] 75)).heap.size = w.heap.size + 1 + 1 := by simp
  obtain ⟨W2, hW2⟩ : ∃ W2, (w.alloc (.cells #[.pointer none, .slice none 0 0, .pointer none, .slice none 0 0, .pointer none, .pointer none, .slice none 0 0, .int .i32 0] 72)).alloc (.cells #[.int .i32 4] 75) = W2 := ⟨_, rfl⟩
  rw [hW2] at b1 b2 hbl hz2
  have k1 := b1.below (below_bytes W2 s) b1.lt
  have k2 := b2.below (below_bytes W2 s) b2.lt
  have hrb := reads_bytes W2 s
  have hcv := Lib.run_convert_string_bytes (P := Tryd.prog) W2 9 22 5 s Tryd.underlying9 Tryd.underlying22 Tryd.underlying5
  have hsz := Lib.bytesWorld_size W2 5 s
  have hcap := grownCap_ge W2 s.size 0 5
  have hsl : s.data.toList.length = s.size := Array.length_toList
  have hbl2 := below_then hbl hbl.size (below_bytes W2 s)
  rw [hz2] at hrb hcv hsz
  generalize grownCap W2 s.size 0 5 = cap at *
  generalize Lib.bytesWorld W2 5 s = WB at *
  have hobj : DObj ((WB.setCell ⟨w.heap.size, 1, none⟩ (.slice (some ⟨w.heap.size + 1 + 1, 0, none⟩) s.size cap)).setCell ⟨w.heap.size, 0, none⟩ (.pointer (some ⟨w.heap.size + 1, 0, none⟩))) (w.heap.size + 3) w.heap.size ⟨4, some s.data.toList, none, none, none⟩ := by
    refine dobj_of ((k1.set_ 1 _).set_ 0 _) ((k2.far (p := ⟨w.heap.size, 1, none⟩) (by show w.heap.size + 1 ≠ w.heap.size; omega) _).far (p := ⟨w.heap.size, 0, none⟩) (by show w.heap.size + 1 ≠ w.heap.size; omega) _) (by omega) (by omega) ⟨_, cap, by show Value.slice _ s.size cap = .slice _ s.data.toList.length cap; rw [hsl], rfl, by show s.data.toList.length ≤ cap; omega, ?_⟩ (.no _ _) (.no _ _) (.no _ _)
    show Reads _ _ 1 _ s.data.toList.length _
    rw [hsl]
    exact (hrb.setFar (p := ⟨w.heap.size, 1, none⟩) (fun ad e => by obtain rfl := Option.some.inj e; show w.heap.size + 1 + 1 ≠ w.heap.size; omega) _).setFar (p := ⟨w.heap.size, 0, none⟩) (fun ad e => by obtain rfl := Option.some.inj e; show w.heap.size + 1 + 1 ≠ w.heap.size; omega) _
  have HM := Lib.hid (marshal_any _ _ _ _ hobj ⟨by show 4 < 128; decide, by show s.data.toList.length ≤ 2000; omega⟩ (by simp [World.setCell]; omega))
  have HBL : Hid (Below w.heap.size w ((WB.setCell ⟨w.heap.size, 1, none⟩ (.slice (some ⟨w.heap.size + 1 + 1, 0, none⟩) s.size cap)).setCell ⟨w.heap.size, 0, none⟩ (.pointer (some ⟨w.heap.size + 1, 0, none⟩)))) := (hbl2.setCell (Nat.le_refl _) _).setCell (Nat.le_refl _) _
  have q0 := k1.cell 0
  have q1 := k1.cell 1
  have qf := k1.frozen
  have HW2 := Lib.hid hW2
  clear b1 b2 hbl hz2 hW2 k1 k2 hrb hsz hcap hsl hbl2 hobj
  go_enter Tryd.func32, Tryd.ntmps32
  go_upto_region 3 with fail
  rw [HW2.out]
  go_wp2_with (first | (go_at_call 44; refine HM.out.mono ?_; rintro e w2 ⟨⟨v2, rfl, hw2⟩⟩; obtain ⟨g2, c2, hv2, -⟩ := hw2.ex; have HW3 := Lib.hid hw2; clear hw2; subst hv2) | fail)
  go_ret2
  exact ⟨⟨_, rfl, HW3.out.after HBL.out⟩⟩
end Go.Proofs.YtijbnmmeecmbjaaDoor
