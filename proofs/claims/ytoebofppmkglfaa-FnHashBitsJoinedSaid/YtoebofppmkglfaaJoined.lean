/- The walk of the law FnHashBitsJoined. -/
import Derived.Test.YtoebofppmkglfaaHashC
import Derived.Test.YtoebofppmkglfaaSized
import Derived.StillTailTactics
import Derived.Deep.RegionWith
namespace Go.Proofs.Ytoebofppmkglfaa
open Go.RowKit

def takesOf (l : List UInt8) : List Nat := l.map fun b => 1 + b.toNat % 24
theorem takesOf_length (l : List UInt8) : (takesOf l).length = l.length := by simp [takesOf]
theorem takesOf_range (l : List UInt8) : ∀ i ∈ takesOf l, 1 ≤ i ∧ i ≤ 24 := fun i hi => by
  obtain ⟨b, _, rfl⟩ := List.mem_map.1 hi
  have := Nat.mod_lt b.toNat (show 0 < 24 by omega)
  omega
theorem ints_append (a b : List Nat) : ints (a ++ b) = ints a ++ ints b := by simp [ints]
theorem shardTakes_any (A : Option Addr) (n c B : Nat) (l : List UInt8) (w : World) (hr : Reads w B 1 A n (u8s l)) (hB : B ≤ w.heap.size) (hn : n ≤ 100000) :
    Calls Try.prog 14 #[.slice A n c] w (Owns w 3 1 n (i64s (ints (takesOf l)))) := by
  obtain ⟨i0, hi, hz0, hz1, hz2⟩ := info_parts infoInt
  have hln : l.length = n := by have := hr.1; simp only [u8s_length, Nat.mul_one] at this; exact this
  have HLN := Lib.hid hln
  have HR := Lib.hid hr
  clear hln hr
  go_enter Try.func14, Try.ntmps14
  go_wp2
  go_loopw [3, 8] (fun v i wr => ∃ j : Nat, j ≤ n ∧ i = .int .i64 j ∧ wr.ownsRow w.heap.size 3 1 v j (i64s (ints (takesOf (l.take j)))) ∧ Below w.heap.size w wr) (fun _ i _ => n - (intOf i).toNat)
  case atStart => exact ⟨0, Nat.zero_le _, rfl, World.ownsRow_nil _ _ _ _, Below.refl _ _⟩
  case round =>
    obtain ⟨j, hj, rfl, hown, hbw⟩ := hrel
    have HO := Lib.hid hown
    clear hown
    have b4 := hbw.size
    by_cases hlt : j < n
    · have hjl : j < l.length := by have := HLN.out; omega
      obtain ⟨ad, x, rfl, _, hx, hcell⟩ := (HR.out.below (hbw.mono hB)).at_ hlt
      rw [u8s_at _ _ hjl] at hx
      obtain rfl := Option.some.inj hx
      have hts := take_snoc l j hjl
      generalize l[j] = b at hcell hts
      have hb := b.toNat_lt
      have hk : takesOf (l.take (j + 1)) = takesOf (l.take j) ++ [1 + b.toNat % 24] := by rw [hts]; simp [takesOf]
      have HK := Lib.hid hk
      clear hx hts hk
      have b1 : j + 1 ≤ maxLen := by unfold maxLen; omega
      have b2 : (j + 1) * 8 ≤ 140737488355328 := by omega
      go_wp2_with (at_builtin; refine wpList_append_one rfl (.tmp 12) (.tmp 17) 29 rfl w.heap.size i0 (.int .i64 0) 8 Try.underlying29 hi hz0 hz1 hz2 rfl _ j _ rfl HO.out rfl rfl b1 b2 b4 ?_; rintro v3 w3 hown3 hg3 hat3 _; have HO3 := Lib.hid hown3; clear hown3 hat3)
      go_roundw
      case rel =>
        refine ⟨j + 1, by omega, by go_num, ?_, hbw.grown hg3 hbw.size (own_base HO.out)⟩
        rw [HK.out, ints_append, i64s_append]
        have e : i64s (ints [1 + b.toNat % 24]) = [.int .i64 (1 + (b.toNat : Int) % 24)] := by simp [i64s, ints]
        rw [e]
        exact HO3.out
      case measure => simp [intOf]; omega
    · obtain rfl : n = j := by omega
      have HALL := Lib.hid (show l.take n = l from List.take_of_length_le (by have := HLN.out; omega))
      go_wp2
      go_ret
      have h2 := HO.out
      rw [HALL.out] at h2
      exact ⟨⟨_, rfl, h2⟩, hbw⟩

theorem shardTaking_any (w : World) : Calls Try.prog 13 #[] w (Yes w) := by
  have L1 : Hid (Reads (w.alloc (.cells #[.int .u8 160] 5)) (w.heap.size + 1) 1 (some ⟨w.heap.size, 0, none⟩) 1 (u8s [160])) := reads_lit w 5 (u8s [160])
  have L2 : Hid (Reads ((w.alloc (.cells #[.int .u8 160] 5)).alloc (.cells #[.int .i64 3] 3)) ((w.alloc (.cells #[.int .u8 160] 5)).heap.size + 1) 1 (some ⟨(w.alloc (.cells #[.int .u8 160] 5)).heap.size, 0, none⟩) 1 (i64s (ints [3]))) := reads_lit (w.alloc (.cells #[.int .u8 160] 5)) 3 (i64s [3])
  have L1' := Lib.hid ((L1.out.alloc (by simp) (.cells #[.int .i64 3] 3)).more (show w.heap.size + 1 ≤ w.heap.size + 2 by omega))
  have L2' : Hid (Reads ((w.alloc (.cells #[.int .u8 160] 5)).alloc (.cells #[.int .i64 3] 3)) (w.heap.size + 2) 1 (some ⟨w.heap.size + 1, 0, none⟩) 1 (i64s (ints [3]))) := by
    have h := L2.out
    rw [World.size_alloc] at h
    exact h
  clear L1 L2
  go_enter Try.func13, Try.ntmps13
  go_wp2_with fail
  refine (implHash_any _ _ _ _ _ _ _ [160] [3] _ (by omega) (by omega) L1'.out L2'.out (by simp) (by simp)).mono ?_
  rintro e w1 ⟨⟨hs, v, rfl, ho⟩ | ⟨hs, rfl⟩, hb1⟩
  · obtain ⟨A1, c1, rfl, hc1, hr1⟩ := own_shape ho
    have HR1 := Lib.hid (hr1.alloc (Nat.le_refl _) (.cells #[.int .i64 5] 3))
    have L3 : Hid (Reads (w1.alloc (.cells #[.int .i64 5] 3)) (w1.heap.size + 1) 1 (some ⟨w1.heap.size, 0, none⟩) 1 (i64s (nums [160] 0 [3]))) := reads_lit w1 3 (i64s [5])
    clear hs ho hr1
    go_wp2_with fail
    refine (equal_i64 _ _ _ _ _ _ _ _ _ HR1.out L3.out (by simp)).mono ?_
    rintro e w2 ⟨rfl, d, rfl⟩
    go_wp2
    go_ret
    exact ⟨rfl, below_drewN (below_alloc (below_then (below_alloc (below_one _ _) _) (by simp; omega) hb1) _) _⟩
  · simp at hs

theorem sum_two (a p q : Nat) (bs : List UInt8) (l : List Nat) : nums bs a (l ++ [p, q]) = nums bs a l ++ [(num bs (a + l.sum) p : Int), (num bs (a + l.sum + p) q : Int)] := by
  rw [nums_append]; simp [nums]
theorem sum_one (a p : Nat) (bs : List UInt8) (l : List Nat) : nums bs a (l ++ [p]) = nums bs a l ++ [(num bs (a + l.sum) p : Int)] := by
  rw [nums_append]; simp [nums]
theorem joined_small (x p q : Nat) (h : x < 2 ^ p) (hp : p ≤ 12) (hq : q ≤ 12) : x * 2 ^ q ≤ 16777216 := by
  have h1 : 2 ^ p ≤ 4096 := Nat.pow_le_pow_right (n := 2) (by omega) hp
  have h2 : 2 ^ q ≤ 4096 := Nat.pow_le_pow_right (n := 2) (by omega) hq
  have h3 : x ≤ 4096 := by omega
  exact Nat.le_trans (Nat.mul_le_mul h3 h2) (by decide)
theorem joined_shl (x p q : Nat) (h : x < 2 ^ p) (hp : p ≤ 12) (hq : q ≤ 12) : wrap64 ((x : Int) * 2 ^ q) = ((x * 2 ^ q : Nat) : Int) := by
  have h1 := joined_small x p q h hp hq
  have e : ((x : Int) * 2 ^ q) = ((x * 2 ^ q : Nat) : Int) := by simp
  rw [e]
  generalize x * 2 ^ q = z at h1
  unfold wrap64
  omega
theorem ofInt_i64 (a : Nat) (ha : a < 9223372036854775808) : (BitVec.ofInt 64 (a : Int)).toNat = a := by
  rw [BitVec.ofInt_natCast, BitVec.toNat_ofNat]; exact Nat.mod_eq_of_lt (by omega)
theorem i64_or_nat (a b : Nat) (ha : a < 9223372036854775808) (hb : b < 9223372036854775808) : bits .or .i64 (a : Int) (b : Int) = ((a ||| b : Nat) : Int) := by
  have hx : a ||| b < 2 ^ 63 := Nat.or_lt_two_pow (by omega) (by omega)
  show IntKind.i64.wrap ((BitVec.ofInt 64 (a : Int) ||| BitVec.ofInt 64 (b : Int)).toNat : Int) = _
  rw [BitVec.toNat_or, ofInt_i64 a ha, ofInt_i64 b hb, IntKind.wrap_i64]
  omega
theorem joined_or (x y p q : Nat) (h : x < 2 ^ p) (hy : y < 2 ^ q) (hp : p ≤ 12) (hq : q ≤ 12) : bits .or .i64 ((x * 2 ^ q : Nat) : Int) (y : Int) = ((x * 2 ^ q + y : Nat) : Int) := by
  have h1 := joined_small x p q h hp hq
  have h2 : 2 ^ q ≤ 4096 := Nat.pow_le_pow_right (n := 2) (by omega) hq
  rw [i64_or_nat _ _ (by omega) (by omega), nat_join q _ _ (Nat.mul_mod_left _ _) hy]
set_option maxRecDepth 100000 in
set_option maxHeartbeats 1000000 in
theorem joined_any (A A2 : Option Addr) (n c n2 c2 : Nat) (bs l : List UInt8) (m k : Int) (w : World) (hr : Reads w w.heap.size 1 A n (u8s bs)) (hr2 : Reads w w.heap.size 1 A2 n2 (u8s l)) (hn : n ≤ 140737488355328) (hn2 : n2 ≤ 140737488355328) (hm0 : 0 ≤ m) (hm1 : m ≤ 255) (hk0 : 0 ≤ k) (hk1 : k ≤ 255) :
    Calls Try.prog 5 #[.slice A n c, .slice A2 n2 c2, .int .u8 m, .int .u8 k] w (Yes w) := by
  have HR := Lib.hid hr
  have HR2 := Lib.hid hr2
  clear hr hr2
  by_cases h1 : 2147483647 < n
  · go_enter Try.func5, Try.ntmps5
    go_wp2
    go_ret
    exact ⟨rfl, Below.refl _ _⟩
  by_cases h2 : 2147483647 < n2
  · go_enter Try.func5, Try.ntmps5
    go_wp2
    go_ret
    exact ⟨rfl, Below.refl _ _⟩
  by_cases h3 : 100 < n
  · go_enter Try.func5, Try.ntmps5
    go_wp2_with (go_at_call 13; refine (shardTaking_any _).mono ?_; rintro e w2 ⟨rfl, hb2⟩)
    go_ret
    exact ⟨rfl, hb2⟩
  by_cases h4 : 200 < n2
  · go_enter Try.func5, Try.ntmps5
    go_wp2_with (go_at_call 13; refine (shardTaking_any _).mono ?_; rintro e w2 ⟨rfl, hb2⟩)
    go_ret
    exact ⟨rfl, hb2⟩
  have hln : l.length = n2 := by have := HR2.out.1; simp only [u8s_length, Nat.mul_one] at this; exact this
  obtain ⟨p, hp⟩ : ∃ p : Nat, 1 + m % 12 = p := ⟨(1 + m % 12).toNat, by omega⟩
  obtain ⟨q, hq⟩ : ∃ q : Nat, 1 + k % 12 = q := ⟨(1 + k % 12).toNat, by omega⟩
  have p1 : 1 ≤ p := by omega
  have p2 : p ≤ 12 := by omega
  have q1 : 1 ≤ q := by omega
  have q2 : q ≤ 12 := by omega
  have HP := Lib.hid hp
  have HQ := Lib.hid hq
  have HLN := Lib.hid hln
  have hn' : n ≤ 100 := by omega
  have hn2' : n2 ≤ 200 := by omega
  clear hp hq hln h1 h2 h3 h4 hn hn2
  go_enter Try.func5, Try.ntmps5
  go_wp2_with fail
  refine (shardTakes_any _ _ _ _ _ _ HR2.out (Nat.le_refl _) (by omega)).mono ?_
  rintro e w1 ⟨⟨v1, rfl, ho1⟩, hb1⟩
  obtain ⟨A1, c1, rfl, hc1, hr1⟩ := own_shape ho1
  have HR1 := Lib.hid hr1
  clear ho1 hr1
  go_wp2_with fail
  rw [HP.out, HQ.out]
  have hT := takesOf_range l
  have hTL := takesOf_length l
  generalize takesOf l = T at HR1 hT hTL
  have r1 : ∀ i ∈ T ++ [p, q], 1 ≤ i ∧ i ≤ 24 := fun i hi => by
    simp only [List.mem_append, List.mem_cons, List.not_mem_nil, or_false] at hi
    rcases hi with hi | rfl | rfl
    · exact hT i hi
    · omega
    · omega
  have r2 : ∀ i ∈ T ++ [p + q], 1 ≤ i ∧ i ≤ 24 := fun i hi => by
    simp only [List.mem_append, List.mem_cons, List.not_mem_nil, or_false] at hi
    rcases hi with hi | rfl
    · exact hT i hi
    · omega
  have R1 := Lib.hid r1
  have R2 := Lib.hid r2
  have HTL := Lib.hid hTL
  clear hT hTL r1 r2
  have n1 : [ints T, ints [p, q]].flatten.length = n2 + 2 := by have := HTL.out; have := HLN.out; simp [ints_length]; omega
  have n1' : [ints T, ints [p + q]].flatten.length = n2 + 1 := by have := HTL.out; have := HLN.out; simp [ints_length]; omega
  have N1 := Lib.hid n1
  have N2 := Lib.hid n1'
  clear n1 n1'
  have f1 : Below w1.heap.size w1 ((w1.alloc (.cells #[.int .i64 (p : Int), .int .i64 (q : Int)] 3)).alloc (.cells #[.slice A1 n2 c1, .slice (some ⟨w1.heap.size, 0, none⟩) 2 2] 29)) := below_alloc (below_one _ _) _
  have L1 : Hid (Reads ((w1.alloc (.cells #[.int .i64 (p : Int), .int .i64 (q : Int)] 3)).alloc (.cells #[.slice A1 n2 c1, .slice (some ⟨w1.heap.size, 0, none⟩) 2 2] 29)) (w1.heap.size + 2) 1 (some ⟨w1.heap.size + 1, 0, none⟩) 2 [.slice A1 n2 c1, .slice (some ⟨w1.heap.size, 0, none⟩) 2 2]) := reads_lit2 _ _ _ [_, _]
  have lit : Reads (w1.alloc (.cells #[.int .i64 (p : Int), .int .i64 (q : Int)] 3)) (w1.heap.size + 1) 1 (some ⟨w1.heap.size, 0, none⟩) 2 (i64s (ints [p, q])) := reads_lit w1 3 (i64s (ints [p, q]))
  have H1 := Lib.hid ((((RowsI.nil _ (w1.heap.size + 2)).cons ((lit.alloc (by simp) (.cells #[.slice A1 n2 c1, .slice (some ⟨w1.heap.size, 0, none⟩) 2 2] 29)).more (by omega)) (Nat.le_refl 2)).cons ((HR1.out.below f1).more (by omega)) hc1))
  clear lit
  refine (concat_i64 _ _ _ _ _ _ _ _ L1.out H1.out N1.out (by simp) (by omega) (by omega)).mono ?_
  rintro e w2 ⟨⟨v2, rfl, ho2⟩, hb2⟩
  obtain ⟨A2', c2', rfl, hc2, hr2⟩ := own_shape ho2
  rw [show [ints T, ints [p, q]].flatten = ints (T ++ [p, q]) by simp [ints]] at hr2
  have HR3 := Lib.hid hr2
  have f2 := Lib.hid (f1.trans (hb2.mono f1.size))
  clear ho2 hr2 L1 H1 f1
  have g2 : w.heap.size ≤ w2.heap.size := Nat.le_trans hb1.size f2.out.size
  have e2 := Lib.hid (below_then hb1 hb1.size f2.out)
  go_wp2_with fail
  refine (implHash_any _ _ _ _ _ _ w2.heap.size bs (T ++ [p, q]) _ (by omega) (by omega) ((HR.out.below e2.out).more g2) HR3.out (Nat.le_refl _) R1.out).mono ?_
  have hsum : (T ++ [p + q]).sum = (T ++ [p, q]).sum := by simp
  have HSUM := Lib.hid hsum
  have HT2 : Hid ((T ++ [p, q]).length = n2 + 2) := by have h1 := HTL.out; have h2 := HLN.out; show _ = _; simp only [List.length_append, List.length_cons, List.length_nil]; omega
  have HT1 : Hid ((T ++ [p + q]).length = n2 + 1) := by have h1 := HTL.out; have h2 := HLN.out; show _ = _; simp only [List.length_append, List.length_cons, List.length_nil]; omega
  clear hsum
  rintro e w3 ⟨hx, hb3⟩
  have hx2 : (∃ A3 c3, e = .returned (.tuple #[.slice A3 (n2 + 2) c3, .bool true]) ∧ n2 + 2 ≤ c3 ∧ (T ++ [p, q]).sum ≤ 8 * n ∧ Reads w3 w3.heap.size 1 A3 (n2 + 2) (i64s (nums bs 0 (T ++ [p, q])))) ∨ (8 * n < (T ++ [p, q]).sum ∧ e = .returned (.tuple #[.slice none 0 0, .bool false])) := by
    rcases hx with ⟨hs, v, rfl, ho⟩ | ⟨hs, rfl⟩
    · rw [HT2.out] at ho
      obtain ⟨A3, c3, rfl, hc3, hr3⟩ := own_shape ho
      exact .inl ⟨A3, c3, rfl, hc3, hs, hr3⟩
    · exact .inr ⟨hs, rfl⟩
  clear hx
  generalize (T ++ [p, q]).sum = S at hx2 HSUM
  rcases hx2 with ⟨A3, c3, rfl, hc3, hs, hr3⟩ | ⟨hs, rfl⟩
  · have HR4 := Lib.hid hr3
    clear hr3
    have f3 := f2.out.trans (hb3.mono f2.out.size)
    have f4 : Below w3.heap.size w3 ((w3.alloc (.cells #[.int .i64 ((p : Int) + (q : Int))] 3)).alloc (.cells #[.slice A1 n2 c1, .slice (some ⟨w3.heap.size, 0, none⟩) 1 1] 29)) := below_alloc (below_one _ _) _
    have L2 : Hid (Reads ((w3.alloc (.cells #[.int .i64 ((p : Int) + (q : Int))] 3)).alloc (.cells #[.slice A1 n2 c1, .slice (some ⟨w3.heap.size, 0, none⟩) 1 1] 29)) (w3.heap.size + 2) 1 (some ⟨w3.heap.size + 1, 0, none⟩) 2 [.slice A1 n2 c1, .slice (some ⟨w3.heap.size, 0, none⟩) 1 1]) := reads_lit2 _ _ _ [_, _]
    have lit : Reads (w3.alloc (.cells #[.int .i64 ((p : Int) + (q : Int))] 3)) (w3.heap.size + 1) 1 (some ⟨w3.heap.size, 0, none⟩) 1 (i64s (ints [p + q])) := reads_lit w3 3 [.int .i64 ((p : Int) + (q : Int))]
    have sz := f3.size
    have H2 := Lib.hid ((((RowsI.nil _ (w3.heap.size + 2)).cons ((lit.alloc (by simp) (.cells #[.slice A1 n2 c1, .slice (some ⟨w3.heap.size, 0, none⟩) 1 1] 29)).more (by omega)) (Nat.le_refl 1)).cons (((HR1.out.below f3).below (f4.mono sz)).more (by omega)) hc1))
    clear lit
    go_wp2_with fail
    refine (concat_i64 _ _ _ _ _ _ _ _ L2.out H2.out N2.out (by simp) (by omega) (by omega)).mono ?_
    rintro e w5 ⟨⟨v5, rfl, ho5⟩, hb5⟩
    obtain ⟨A5, c5, rfl, hc5, hr5⟩ := own_shape ho5
    rw [show [ints T, ints [p + q]].flatten = ints (T ++ [p + q]) by simp [ints]] at hr5
    have HR5 := Lib.hid hr5
    have f5 := Lib.hid (f4.trans (hb5.mono f4.size))
    clear ho5 hr5 L2 H2 f4
    have e5 := Lib.hid ((e2.out.trans (hb3.mono g2)).trans (f5.out.mono (Nat.le_trans g2 hb3.size)))
    go_wp2_with fail
    refine (implHash_any _ _ _ _ _ _ w5.heap.size bs (T ++ [p + q]) _ (by omega) (by omega) ((HR.out.below e5.out).more e5.out.size) HR5.out (Nat.le_refl _) R2.out).mono ?_
    rintro e w6 ⟨hy, hb6⟩
    have e6 := Lib.hid (e5.out.trans (hb6.mono e5.out.size))
    have hy2 : ∃ A6 c6, e = .returned (.tuple #[.slice A6 (n2 + 1) c6, .bool true]) ∧ n2 + 1 ≤ c6 ∧ Reads w6 w6.heap.size 1 A6 (n2 + 1) (i64s (nums bs 0 (T ++ [p + q]))) := by
      rcases hy with ⟨hs', v, rfl, ho⟩ | ⟨hs', rfl⟩
      · rw [HT1.out] at ho
        obtain ⟨A6, c6, rfl, hc6, hr6⟩ := own_shape ho
        exact ⟨A6, c6, rfl, hc6, hr6⟩
      · have := HSUM.out; omega
    obtain ⟨A6, c6, rfl, hc6, hr6⟩ := hy2
    have HR6 := Lib.hid hr6
    clear hr6 hy
    have HR4' := Lib.hid ((HR4.out.below (f5.out.trans (hb6.mono f5.out.size))).more (f5.out.trans (hb6.mono f5.out.size)).size)
    have hTn : (nums bs 0 T).length = n2 := by rw [nums_length]; have h1 := HTL.out; have h2 := HLN.out; omega
    obtain ⟨a3, o3, rfl, _, h3c⟩ := HR4'.out.lit (show n2 < n2 + 2 by omega)
    obtain ⟨a6, o6, rfl, _, h6c⟩ := HR6.out.lit (show n2 < n2 + 1 by omega)
    rw [sum_two] at h3c
    rw [sum_one] at h6c
    simp only [Nat.zero_add] at h3c h6c
    have q3 := h3c n2 (.int .i64 (num bs T.sum p : Int)) (by rw [i64s_append, List.getElem?_append_right (by rw [i64s_length]; omega), i64s_length, hTn, Nat.sub_self]; rfl)
    have q4 := h3c (n2 + 1) (.int .i64 (num bs (T.sum + p) q : Int)) (by rw [i64s_append, List.getElem?_append_right (by rw [i64s_length]; omega), i64s_length, hTn, Nat.add_sub_cancel_left]; rfl)
    have q6 := h6c n2 (.int .i64 (num bs T.sum (p + q) : Int)) (by rw [i64s_append, List.getElem?_append_right (by rw [i64s_length]; omega), i64s_length, hTn, Nat.sub_self]; rfl)
    have hx1 := HR4'.out.head_ (show n2 ≤ n2 + 2 by omega)
    have hx2 := HR6.out.head_ (show n2 ≤ n2 + 1 by omega)
    have t1 : (i64s (nums bs 0 (T ++ [p, q]))).take (n2 * 1) = i64s (nums bs 0 T) := by
      rw [nums_append, i64s_append, Nat.mul_one, List.take_left' (by rw [i64s_length]; exact hTn)]
    have t2 : (i64s (nums bs 0 (T ++ [p + q]))).take (n2 * 1) = i64s (nums bs 0 T) := by
      rw [nums_append, i64s_append, Nat.mul_one, List.take_left' (by rw [i64s_length]; exact hTn)]
    rw [t1] at hx1
    rw [t2] at hx2
    have HX1 := Lib.hid hx1
    have HX2 := Lib.hid hx2
    have hadd := num_add bs T.sum p q
    have l1 := num_lt bs T.sum p
    have l2 := num_lt bs (T.sum + p) q
    generalize num bs T.sum p = X at q3 hadd l1
    generalize num bs (T.sum + p) q = Y at q4 hadd l2
    generalize num bs T.sum (p + q) = Z at q6 hadd
    have so := joined_or X Y p q l1 l2 p2 q2
    rw [← hadd] at so
    have sx := joined_shl X p q l1 p2 q2
    generalize X * 2 ^ q = XQ at sx so
    clear hx1 hx2 t1 t2 h3c h6c hTn hadd
    have x3 := fun x : Ext w6 => cell_ext q3 x
    have x4 := fun x : Ext w6 => cell_ext q4 x
    have x6 := fun x : Ext w6 => cell_ext q6 x
    have tn : ((n2 : Int) + 1).toNat = n2 + 1 := by omega
    go_wp2_with fail
    refine wp_region_ext (by kernel_rfl) (by kernel_rfl) ?_
    repeat (go_big_quiet_step ((first | (go_at_call 16; exact calls_ext _ (fun y hy => (equal_i64 _ _ _ _ _ _ _ _ _ (HX1.out.below hy) (HX2.out.below hy) (by omega)).mono fun _ _ ⟨h1, ⟨d, h2⟩⟩ => ⟨h1, by rw [h2]; exact below_drewN (Below.refl _ _) _⟩)) | (go_at_call 13; exact calls_ext _ (fun y hy => (shardTaking_any y).mono fun _ _ ⟨h1, h2⟩ => ⟨h1, h2⟩)))))
    refine wpQuiet_nil ?_
    rintro _ ⟨⟨w9, hb9⟩, rfl⟩
    go_wp2
    go_ret
    exact ⟨rfl, e6.out.trans (hb9.mono e6.out.size)⟩
  · have f3 := f2.out.trans (hb3.mono f2.out.size)
    have f4 : Below w3.heap.size w3 ((w3.alloc (.cells #[.int .i64 ((p : Int) + (q : Int))] 3)).alloc (.cells #[.slice A1 n2 c1, .slice (some ⟨w3.heap.size, 0, none⟩) 1 1] 29)) := below_alloc (below_one _ _) _
    have L2 : Hid (Reads ((w3.alloc (.cells #[.int .i64 ((p : Int) + (q : Int))] 3)).alloc (.cells #[.slice A1 n2 c1, .slice (some ⟨w3.heap.size, 0, none⟩) 1 1] 29)) (w3.heap.size + 2) 1 (some ⟨w3.heap.size + 1, 0, none⟩) 2 [.slice A1 n2 c1, .slice (some ⟨w3.heap.size, 0, none⟩) 1 1]) := reads_lit2 _ _ _ [_, _]
    have lit : Reads (w3.alloc (.cells #[.int .i64 ((p : Int) + (q : Int))] 3)) (w3.heap.size + 1) 1 (some ⟨w3.heap.size, 0, none⟩) 1 (i64s (ints [p + q])) := reads_lit w3 3 [.int .i64 ((p : Int) + (q : Int))]
    have sz := f3.size
    have H2 := Lib.hid ((((RowsI.nil _ (w3.heap.size + 2)).cons ((lit.alloc (by simp) (.cells #[.slice A1 n2 c1, .slice (some ⟨w3.heap.size, 0, none⟩) 1 1] 29)).more (by omega)) (Nat.le_refl 1)).cons (((HR1.out.below f3).below (f4.mono sz)).more (by omega)) hc1))
    clear lit
    go_wp2_with fail
    refine (concat_i64 _ _ _ _ _ _ _ _ L2.out H2.out N2.out (by simp) (by omega) (by omega)).mono ?_
    rintro e w5 ⟨⟨v5, rfl, ho5⟩, hb5⟩
    obtain ⟨A5, c5, rfl, hc5, hr5⟩ := own_shape ho5
    rw [show [ints T, ints [p + q]].flatten = ints (T ++ [p + q]) by simp [ints]] at hr5
    have HR5 := Lib.hid hr5
    have f5 := Lib.hid (f4.trans (hb5.mono f4.size))
    clear ho5 hr5 L2 H2 f4
    have e5 := Lib.hid ((e2.out.trans (hb3.mono g2)).trans (f5.out.mono (Nat.le_trans g2 hb3.size)))
    go_wp2_with fail
    refine (implHash_any _ _ _ _ _ _ w5.heap.size bs (T ++ [p + q]) _ (by omega) (by omega) ((HR.out.below e5.out).more e5.out.size) HR5.out (Nat.le_refl _) R2.out).mono ?_
    rintro e w6 ⟨hy, hb6⟩
    have e6 := Lib.hid (e5.out.trans (hb6.mono e5.out.size))
    obtain rfl : e = .returned (.tuple #[.slice none 0 0, .bool false]) := by
      rcases hy with ⟨hs', v, rfl, ho⟩ | ⟨hs', rfl⟩
      · have := HSUM.out; omega
      · rfl
    go_wp2_with fail
    refine (shardTaking_any _).mono ?_
    rintro e w7 ⟨rfl, hb7⟩
    go_wp2
    go_ret
    exact ⟨rfl, e6.out.trans (hb7.mono e6.out.size)⟩

theorem joined_row (A : Option Addr) (n c : Nat) (zs : List Int) (A2 : Option Addr) (n2 c2 : Nat) (ys : List Int) (m k : Int) (w : World) (h1 : IsRow .u8 w A n c zs) (s1 : n * 1 ≤ 140737488351232) (h2 : IsRow .u8 w A2 n2 c2 ys) (s2 : n2 * 1 ≤ 140737488351232) (hm : (Lit.int .u8 m).wf = true) (hk : (Lit.int .u8 k).wf = true) :
    Calls Try.prog 5 #[.slice A n c, .slice A2 n2 c2, .int .u8 m, .int .u8 k] w fun e w' => e = .returned (.bool true) ∧ Below w.heap.size w w' := by
  simp [Lit.wf, IntKind.min, IntKind.max, IntKind.signed, IntKind.bits] at hm hk
  obtain ⟨_, r1, f1, _⟩ := isRow_reads h1
  obtain ⟨_, r2, f2, _⟩ := isRow_reads h2
  obtain ⟨bs, e1, _⟩ := bytes_of f1
  obtain ⟨l, e2, _⟩ := bytes_of f2
  rw [e1] at r1
  rw [e2] at r2
  exact (joined_any A A2 n c n2 c2 bs l m k w r1 r2 (by omega) (by omega) (by omega) (by omega) (by omega) (by omega)).mono fun _ _ ⟨h1, h2⟩ => ⟨h1, h2⟩
end Go.Proofs.Ytoebofppmkglfaa
