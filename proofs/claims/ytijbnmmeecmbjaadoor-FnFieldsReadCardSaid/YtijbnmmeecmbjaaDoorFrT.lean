/- spec.Told: the contents' size takes the file's size's place; spec.SameFS of two that tell the same. -/
import Derived.BigQuiet
import Derived.Test.YtijbnmmeecmbjaaDoorFrO
namespace Go.Proofs.YtijbnmmeecmbjaaDoor
open Go.RowKit

set_option maxRecDepth 100000 in
set_option maxHeartbeats 2000000 in
theorem told_any (t : Int) (A : Option Addr) (n c fs h f : Nat) (A2 : Option Addr) (n2 c2 : Nat) (w : World) (hn : n ≤ 1000000) :
    Calls Tryd.prog 26 #[.agg #[.int .i64 t, .slice A n c, .int .u64 (fs : Int), .slice A2 n2 c2, .int .u64 (h : Int), .int .u64 (f : Int)]] w fun e w' => e = .returned (.agg #[.int .i64 t, .slice A n c, .int .u64 (((szOf t fs n).getD 0 : Nat) : Int), .slice A2 n2 c2, .int .u64 (h : Int), .int .u64 (f : Int)]) ∧ Below w.heap.size w w' := by
  obtain ⟨C, hC⟩ : ∃ C : Array Value, C = #[.int .i64 t, .slice A n c, .int .u64 (fs : Int), .slice A2 n2 c2, .int .u64 (h : Int), .int .u64 (f : Int)] := ⟨_, rfl⟩
  obtain ⟨Z, hZ⟩ : ∃ Z : Array Value, Z = #[.int .i64 0, .slice none 0 0, .int .u64 0, .slice none 0 0, .int .u64 0, .int .u64 0] := ⟨_, rfl⟩
  have b1 := Blk.new w 32 C
  have b2 := Blk.new (w.alloc (.cells C 32)) 32 Z
  rw [sz1] at b2
  have b1' := b1.alloc (.cells Z 32)
  have hbl := below_alloc (below_one w (.cells C 32)) (.cells Z 32)
  rw [hC, hZ] at b1' b2 hbl
  have HK1 := Lib.hid b1'
  have HK2 := Lib.hid b2
  have HB0 := Lib.hid hbl
  have HS := Lib.hid (fun W => sizeOf_any t A n c fs h f A2 n2 c2 W hn)
  have hv : szV t fs n = .tuple #[.int .u64 (((szOf t fs n).getD 0 : Nat) : Int), .bool (szOf t fs n).isSome] := by
    unfold szV
    cases szOf t fs n <;> rfl
  rw [hv] at HS
  clear b1 b2 b1' hbl hC hZ hv
  generalize (szOf t fs n).getD 0 = x at *
  generalize (szOf t fs n).isSome = xb at *
  go_enter Tryd.func26, Tryd.ntmps26
  go_wp2_with (first | (go_at_call 11; refine (HS.out _).mono ?_; clear HS; rintro e w1 ⟨rfl, hb1⟩; have HKA := Lib.hid (HK1.out.below hb1 HK1.out.lt); have HKB := Lib.hid (HK2.out.below hb1 HK2.out.lt); have HB1 := Lib.hid (below_then HB0.out HB0.out.size hb1); have q0 := HKA.out.cell 0; have q1 := HKA.out.cell 1; have q2 := HKA.out.cell 2; have q3 := HKA.out.cell 3; have q4 := HKA.out.cell 4; have q5 := HKA.out.cell 5; have qf := HKA.out.frozen; have r0 := HKB.out.cell 0; have r1 := HKB.out.cell 1; have r2 := HKB.out.cell 2; have r3 := HKB.out.cell 3; have r4 := HKB.out.cell 4; have r5 := HKB.out.cell 5; have rf := HKB.out.frozen; clear hb1) | fail)
  (try simp only [Exit.inBlock, Exit.then])
  refine bodyPost_ret (results_cell_row rfl _ _ _ _ _ _ _ rfl (six_set (HKB.out.far (p := ⟨w.heap.size, 2, none⟩) (by show w.heap.size + 1 ≠ w.heap.size; omega) _) (.int .i64 t) (.slice A n c) (.int .u64 (x : Int)) (.slice A2 n2 c2) (.int .u64 (h : Int)) (.int .u64 (f : Int))) Tryd.underlying32 rfl (by kernel_rfl)) rfl ?_
  exact ⟨rfl, six_below (HB1.out.setCell (Nat.le_refl _) _) (Nat.le_succ _) _ _ _ _ _ _⟩
set_option maxRecDepth 100000 in
set_option maxHeartbeats 2000000 in
theorem sameFS_any (t : Int) (x h f : Nat) (A A' A2 A2' : Option Addr) (c c' c2 c2' B : Nat) (d : List UInt8) (ss : List Nat) (w : World) (h1 : Reads w B 1 A d.length (u8s d)) (h2 : Reads w B 1 A' d.length (u8s d)) (h3 : Reads w B 1 A2 ss.length (u64s ss)) (h4 : Reads w B 1 A2' ss.length (u64s ss)) (hB : B ≤ w.heap.size) (hs : ss.length ≤ 1000000) :
    Calls Tryd.prog 25 #[.agg #[.int .i64 t, .slice A d.length c, .int .u64 (x : Int), .slice A2 ss.length c2, .int .u64 (h : Int), .int .u64 (f : Int)], .agg #[.int .i64 t, .slice A' d.length c', .int .u64 (x : Int), .slice A2' ss.length c2', .int .u64 (h : Int), .int .u64 (f : Int)]] w (Yes w) := by
  have hbl := below_alloc (below_one w (.cells #[.int .i64 t, .slice A d.length c, .int .u64 (x : Int), .slice A2 ss.length c2, .int .u64 (h : Int), .int .u64 (f : Int)] 32)) (.cells #[.int .i64 t, .slice A' d.length c', .int .u64 (x : Int), .slice A2' ss.length c2', .int .u64 (h : Int), .int .u64 (f : Int)] 32)
  have HSB := Lib.hid (fun W hr hr' => sameBytes_any A A' d.length c d.length c' B B d d W hr hr')
  have HB0 := Lib.hid hbl
  have H1 := Lib.hid (h1.below (hbl.mono hB))
  have H2 := Lib.hid (h2.below (hbl.mono hB))
  have H3 := Lib.hid (h3.below (hbl.mono hB))
  have H4 := Lib.hid (h4.below (hbl.mono hB))
  simp only [beq_self_eq_true] at HSB
  clear hbl h1 h2 h3 h4
  generalize hdl : d.length = dl at *
  clear hdl
  obtain ⟨sl, hsl⟩ : ∃ sl, ss.length = sl := ⟨_, rfl⟩
  rw [hsl] at H1 H2 H3 H4 HB0 hs ⊢
  have HSL := Lib.hid hsl
  clear hsl
  go_enter Tryd.func25, Tryd.ntmps25
  go_wp2_with (first | (go_at_call 12; refine (HSB.out _ H1.out H2.out).mono ?_; clear HSB; rintro e w1 ⟨rfl, rfl⟩) | fail)
  generalize hW0 : (w.alloc (.cells #[.int .i64 t, .slice A dl c, .int .u64 (x : Int), .slice A2 sl c2, .int .u64 (h : Int), .int .u64 (f : Int)] 32)).alloc (.cells #[.int .i64 t, .slice A' dl c', .int .u64 (x : Int), .slice A2' sl c2', .int .u64 (h : Int), .int .u64 (f : Int)] 32) = W0 at *
  have k0 : W0.cell? ⟨w.heap.size, 3, none⟩ = some (.slice A2 sl c2) := by rw [← hW0]; exact ((Blk.new w 32 _).alloc _).cell 3
  have k1 : W0.cell? ⟨w.heap.size + 1, 3, none⟩ = some (.slice A2' sl c2') := by
    have hb := Blk.new (w.alloc (.cells #[.int .i64 t, .slice A dl c, .int .u64 (x : Int), .slice A2 sl c2, .int .u64 (h : Int), .int .u64 (f : Int)] 32)) 32 #[.int .i64 t, .slice A' dl c', .int .u64 (x : Int), .slice A2' sl c2', .int .u64 (h : Int), .int .u64 (f : Int)]
    rw [sz1] at hb
    rw [← hW0]
    exact hb.cell 3
  clear hW0
  go_loopg [52] sl (fun k v wr => (∃ j, wr = W0.drewN j) ∧ ∃ q : Nat, v = .int .i64 q ∧ q ≤ sl ∧ Hid (k + q = sl))
  case atStart => exact ⟨⟨0, rfl⟩, 0, rfl, Nat.zero_le _, rfl⟩
  case round =>
    obtain ⟨⟨j, rfl⟩, q, rfl, hq, HK⟩ := hrel
    by_cases hlt : q < sl
    · have hql : q < ss.length := by have := HSL.out; omega
      obtain ⟨b3, o3, rfl, -, g3⟩ := H3.out.lit hlt
      obtain ⟨b4, o4, rfl, -, g4⟩ := H4.out.lit hlt
      have hv : (u64s ss)[q]? = some (.int .u64 ((ss[q] : Nat) : Int)) := by simp [u64s, List.getElem?_eq_getElem hql]
      have e3 := g3 q _ hv
      have e4 := g4 q _ hv
      generalize ((ss[q] : Nat) : Int) = z at *
      clear g3 g4 hv
      go_wp2_with fail
      go_quiet (fail)
      go_wp2
      go_roundg (gk - 1)
      case measure => have := HK.out; omega
      case rel => exact ⟨⟨_, rfl⟩, q + 1, by go_num, hlt, by have := HK.out; show _ = _; omega⟩
    · have hnl : ¬ (q : Int) < sl := by omega
      go_wp2
      go_ret
      exact ⟨rfl, below_drewN HB0.out j⟩
end Go.Proofs.YtijbnmmeecmbjaaDoor
