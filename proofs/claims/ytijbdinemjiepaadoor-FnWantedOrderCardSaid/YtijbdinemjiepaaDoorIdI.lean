/- laws.key and laws.identifier, for any number. -/
import Derived.Lib.AppendZeros
import Derived.Test.YtijbdinemjiepaaDoorIdK
namespace Go.Proofs.YtijbdinemjiepaaDoor
open Go.RowKit

/-- A hash of 32 bytes, of which the last one tells it. -/
def hsh (v : UInt8) : List UInt8 := List.replicate 31 0 ++ [v]
/-- The bytes of an identifier of a number. -/
def identB (n : Nat) : List UInt8 := (if n % 3 = 0 then [] else if n % 3 = 1 then [1, 112] else [1, 85]) ++ (18 :: 32 :: hsh (UInt8.ofNat (n / 3)))
theorem hsh_length (v : UInt8) : (hsh v).length = 32 := by simp [hsh]
theorem identB_length (n : Nat) : (identB n).length ≤ 36 ∧ 34 ≤ (identB n).length := by
  unfold identB
  split
  · simp [hsh]
  · split <;> simp [hsh]
theorem hsh_cells (v : UInt8) (x : Nat) (hx : v.toNat = x) : (u8s (hsh v)).toArray = #[.int .u8 0, .int .u8 0, .int .u8 0, .int .u8 0, .int .u8 0, .int .u8 0, .int .u8 0, .int .u8 0, .int .u8 0, .int .u8 0, .int .u8 0, .int .u8 0, .int .u8 0, .int .u8 0, .int .u8 0, .int .u8 0, .int .u8 0, .int .u8 0, .int .u8 0, .int .u8 0, .int .u8 0, .int .u8 0, .int .u8 0, .int .u8 0, .int .u8 0, .int .u8 0, .int .u8 0, .int .u8 0, .int .u8 0, .int .u8 0, .int .u8 0, .int .u8 (x : Int)] := by
  rw [← hx]
  rfl
theorem own_lit (W : World) (e : TypeId) (cs : List Value) (hm : cs.length ≤ maxLen) : (W.alloc (.cells cs.toArray e)).ownsRow W.heap.size e 1 (.slice (some ⟨W.heap.size, 0, none⟩) cs.length cs.length) cs.length cs := by
  have h := (Blk.new W e cs.toArray).own W.heap.size cs.length cs.length (Nat.le_refl _) (Nat.le_refl _) hm (by simp)
  simpa using h
set_option maxRecDepth 100000 in
set_option maxHeartbeats 2000000 in
theorem key_any (v : UInt8) (x : Nat) (hx : v.toNat = x) (w : World) : Calls Tryd.prog 42 #[.agg #[.int .u8 0, .int .u8 0, .int .u8 0, .int .u8 0, .int .u8 0, .int .u8 0, .int .u8 0, .int .u8 0, .int .u8 0, .int .u8 0, .int .u8 0, .int .u8 0, .int .u8 0, .int .u8 0, .int .u8 0, .int .u8 0, .int .u8 0, .int .u8 0, .int .u8 0, .int .u8 0, .int .u8 0, .int .u8 0, .int .u8 0, .int .u8 0, .int .u8 0, .int .u8 0, .int .u8 0, .int .u8 0, .int .u8 0, .int .u8 0, .int .u8 0, .int .u8 (x : Int)]] w (Owns w 5 1 34 (u8s (18 :: 32 :: hsh v))) := by
  obtain ⟨i0, hi, hz0, hz1, hz2⟩ := info_parts infoU8
  have hb := below_one w (.cells #[.int .u8 0, .int .u8 0, .int .u8 0, .int .u8 0, .int .u8 0, .int .u8 0, .int .u8 0, .int .u8 0, .int .u8 0, .int .u8 0, .int .u8 0, .int .u8 0, .int .u8 0, .int .u8 0, .int .u8 0, .int .u8 0, .int .u8 0, .int .u8 0, .int .u8 0, .int .u8 0, .int .u8 0, .int .u8 0, .int .u8 0, .int .u8 0, .int .u8 0, .int .u8 0, .int .u8 0, .int .u8 0, .int .u8 0, .int .u8 0, .int .u8 0, .int .u8 (x : Int)] 99)
  have hown := own_lit (w.alloc (.cells #[.int .u8 0, .int .u8 0, .int .u8 0, .int .u8 0, .int .u8 0, .int .u8 0, .int .u8 0, .int .u8 0, .int .u8 0, .int .u8 0, .int .u8 0, .int .u8 0, .int .u8 0, .int .u8 0, .int .u8 0, .int .u8 0, .int .u8 0, .int .u8 0, .int .u8 0, .int .u8 0, .int .u8 0, .int .u8 0, .int .u8 0, .int .u8 0, .int .u8 0, .int .u8 0, .int .u8 0, .int .u8 0, .int .u8 0, .int .u8 0, .int .u8 0, .int .u8 (x : Int)] 99)) 5 (u8s [18, 32]) (by decide)
  have hrd := (reads_lit w 99 (u8s (hsh v))).alloc (by simp) (.cells (u8s [18, 32]).toArray 5)
  rw [hsh_cells v x hx] at hrd
  rw [World.size_alloc] at hown
  have HO := Lib.hid hown
  have HR := Lib.hid hrd
  have HB := Lib.hid hb
  clear hown hrd hb hx
  go_enter Tryd.func42, Tryd.ntmps42
  go_wp2_with (first | (at_builtin; refine wpList_append_any _ rfl (.tmp 3) (.tmp 4) 30 rfl (w.heap.size + 1) 5 i0 _ 1 1 Tryd.underlying30 hi hz0 hz1 hz2 rfl (by decide) (.slice (some ⟨w.heap.size + 1, 0, none⟩) 2 2) 2 (u8s [18, 32]) rfl HO.out (w.heap.size + 1) (some ⟨w.heap.size, 0, none⟩) 32 32 (u8s (hsh v)) rfl HR.out (u8s_one _) (by unfold maxLen; omega) (by omega) (by simp) ?_; rintro v3 w3 hown3 hg3 _ _; have HO3 := Lib.hid hown3; have HB3 := Lib.hid ((below_alloc HB.out _).grown hg3 (by simp; omega) (fun k hk => by have := own_base HO.out k hk; omega)); clear hown3 hg3) | fail)
  go_ret
  have h := own_more HO3.out (base' := w.heap.size) (by omega)
  rw [← u8s_append] at h
  exact ⟨⟨_, rfl, h⟩, HB3.out⟩
set_option maxRecDepth 100000 in
set_option maxHeartbeats 2000000 in
theorem ident_0 (n : Nat) (w : World) (hn : n < 256) (hr : n % 3 = 0) : Calls Tryd.prog 21 #[.int .u8 n] w (Owns w 5 1 34 (u8s (identB n))) := by
  obtain ⟨i0, hi, hz0, hz1, hz2⟩ := info_parts infoU8
  have hid : identB n = 18 :: 32 :: hsh (UInt8.ofNat (n / 3)) := by unfold identB; rw [if_pos hr]; rfl
  rw [hid]
  obtain ⟨q, hq⟩ : ∃ q, n / 3 = q := ⟨_, rfl⟩
  have e1 : (n : Int) / 3 = (q : Int) := by omega
  have e2 : (n : Int) % 3 = 0 := by omega
  have HK := Lib.hid (fun W => key_any (UInt8.ofNat q) q (by rw [UInt8.toNat_ofNat_of_lt' (by show _ < 256; omega)]) W)
  rw [hq]
  clear hq hid hr
  go_enter Tryd.func21, Tryd.ntmps21
  go_wp2_with (first | (refine wpList_load_row rfl 99 (.tmp 3) rfl w.heap.size rfl 99 _ _ _ (heap_alloc_new w _) Tryd.underlying99 rfl (by kernel_rfl) ?_) | (go_at_call 42; refine (HK.out _).mono ?_; rintro e w2 ⟨⟨v2, rfl, ho2⟩, hb2⟩; have HO2 := Lib.hid (own_more ho2 (base' := w.heap.size) (by simp)); have HB2 := Lib.hid (below_then (below_one w _) (by simp) hb2); clear ho2 hb2) | fail)
  go_ret
  exact ⟨⟨_, rfl, HO2.out⟩, HB2.out⟩
set_option maxRecDepth 100000 in
set_option maxHeartbeats 2000000 in
theorem ident_1 (n : Nat) (w : World) (hn : n < 256) (hr : n % 3 = 1) : Calls Tryd.prog 21 #[.int .u8 n] w (Owns w 5 1 36 (u8s (identB n))) := by
  obtain ⟨i0, hi, hz0, hz1, hz2⟩ := info_parts infoU8
  have hid : identB n = [1, 112] ++ (18 :: 32 :: hsh (UInt8.ofNat (n / 3))) := by unfold identB; rw [if_neg (by omega), if_pos hr]
  rw [hid]
  obtain ⟨q, hq⟩ : ∃ q, n / 3 = q := ⟨_, rfl⟩
  have e1 : (n : Int) / 3 = (q : Int) := by omega
  have e2 : (n : Int) % 3 = 1 := by omega
  have HK := Lib.hid (fun W => key_any (UInt8.ofNat q) q (by rw [UInt8.toNat_ofNat_of_lt' (by show _ < 256; omega)]) W)
  rw [hq]
  clear hq hid hr
  go_enter Tryd.func21, Tryd.ntmps21
  go_wp2_with (first | (refine wpList_load_row rfl 99 (.tmp 3) rfl w.heap.size rfl 99 _ _ _ (heap_alloc_new w _) Tryd.underlying99 rfl (by kernel_rfl) ?_) | (go_at_call 42; refine (HK.out _).mono ?_; rintro e w2 ⟨⟨v2, rfl, ho2⟩, hb2⟩; obtain ⟨A2, c2, rfl, _, hr2⟩ := own_shape ho2; have hown := own_lit (w2.alloc (.cells (u8s [112, 85]).toArray 5)) 5 (u8s [1, 112]) (by decide); rw [World.size_alloc] at hown; have HO := Lib.hid hown; have HR := Lib.hid ((hr2.alloc (Nat.le_refl _) (.cells (u8s [112, 85]).toArray 5)).alloc (by simp) (.cells (u8s [1, 112]).toArray 5)); have HB2 := Lib.hid (below_then (below_one w _) (by simp) hb2); clear ho2 hr2 hown hb2) | (at_builtin; refine wpList_append_any _ rfl (.tmp 19) (.tmp 20) 30 rfl (w2.heap.size + 1) 5 i0 _ 1 1 Tryd.underlying30 hi hz0 hz1 hz2 rfl (by decide) (.slice (some ⟨w2.heap.size + 1, 0, none⟩) 2 2) 2 (u8s [1, 112]) rfl HO.out w2.heap.size A2 34 c2 (u8s (18 :: 32 :: hsh (UInt8.ofNat q))) rfl HR.out (u8s_one _) (by unfold maxLen; omega) (by omega) (by simp) ?_; rintro v3 w3 hown3 hg3 _ _; have HO3 := Lib.hid hown3; have HB3 := Lib.hid ((below_alloc (below_alloc HB2.out _) _).grown hg3 (by have := HB2.out.size; simp; omega) (fun k hk => by have := own_base HO.out k hk; have := HB2.out.size; omega)); clear hown3 hg3) | fail)
  go_ret
  have h := own_more HO3.out (base' := w.heap.size) (by have := HB2.out.size; omega)
  rw [← u8s_append] at h
  exact ⟨⟨_, rfl, h⟩, HB3.out⟩
set_option maxRecDepth 100000 in
set_option maxHeartbeats 2000000 in
theorem ident_2 (n : Nat) (w : World) (hn : n < 256) (hr : n % 3 = 2) : Calls Tryd.prog 21 #[.int .u8 n] w (Owns w 5 1 36 (u8s (identB n))) := by
  obtain ⟨i0, hi, hz0, hz1, hz2⟩ := info_parts infoU8
  have hid : identB n = [1, 85] ++ (18 :: 32 :: hsh (UInt8.ofNat (n / 3))) := by unfold identB; rw [if_neg (by omega), if_neg (by omega)]
  rw [hid]
  obtain ⟨q, hq⟩ : ∃ q, n / 3 = q := ⟨_, rfl⟩
  have e1 : (n : Int) / 3 = (q : Int) := by omega
  have e2 : (n : Int) % 3 = 2 := by omega
  have HK := Lib.hid (fun W => key_any (UInt8.ofNat q) q (by rw [UInt8.toNat_ofNat_of_lt' (by show _ < 256; omega)]) W)
  rw [hq]
  clear hq hid hr
  go_enter Tryd.func21, Tryd.ntmps21
  go_wp2_with (first | (refine wpList_load_row rfl 99 (.tmp 3) rfl w.heap.size rfl 99 _ _ _ (heap_alloc_new w _) Tryd.underlying99 rfl (by kernel_rfl) ?_) | (go_at_call 42; refine (HK.out _).mono ?_; rintro e w2 ⟨⟨v2, rfl, ho2⟩, hb2⟩; obtain ⟨A2, c2, rfl, _, hr2⟩ := own_shape ho2; have hown := own_lit (w2.alloc (.cells (u8s [112, 85]).toArray 5)) 5 (u8s [1, 85]) (by decide); rw [World.size_alloc] at hown; have HO := Lib.hid hown; have HR := Lib.hid ((hr2.alloc (Nat.le_refl _) (.cells (u8s [112, 85]).toArray 5)).alloc (by simp) (.cells (u8s [1, 85]).toArray 5)); have HB2 := Lib.hid (below_then (below_one w _) (by simp) hb2); clear ho2 hr2 hown hb2) | (at_builtin; refine wpList_append_any _ rfl (.tmp 19) (.tmp 20) 30 rfl (w2.heap.size + 1) 5 i0 _ 1 1 Tryd.underlying30 hi hz0 hz1 hz2 rfl (by decide) (.slice (some ⟨w2.heap.size + 1, 0, none⟩) 2 2) 2 (u8s [1, 85]) rfl HO.out w2.heap.size A2 34 c2 (u8s (18 :: 32 :: hsh (UInt8.ofNat q))) rfl HR.out (u8s_one _) (by unfold maxLen; omega) (by omega) (by simp) ?_; rintro v3 w3 hown3 hg3 _ _; have HO3 := Lib.hid hown3; have HB3 := Lib.hid ((below_alloc (below_alloc HB2.out _) _).grown hg3 (by have := HB2.out.size; simp; omega) (fun k hk => by have := own_base HO.out k hk; have := HB2.out.size; omega)); clear hown3 hg3) | fail)
  go_ret
  have h := own_more HO3.out (base' := w.heap.size) (by have := HB2.out.size; omega)
  rw [← u8s_append] at h
  exact ⟨⟨_, rfl, h⟩, HB3.out⟩
theorem ident_any (n : Nat) (w : World) (hn : n < 256) : Calls Tryd.prog 21 #[.int .u8 n] w (Owns w 5 1 (identB n).length (u8s (identB n))) := by
  have hl : ∀ r, n % 3 = r → (identB n).length = if r = 0 then 34 else 36 := by
    intro r hr
    unfold identB
    subst hr
    split
    · simp [hsh]
    · split <;> simp [hsh]
  obtain hr | hr | hr : n % 3 = 0 ∨ n % 3 = 1 ∨ n % 3 = 2 := by omega
  · rw [hl 0 hr]; exact ident_0 n w hn hr
  · rw [hl 1 hr]; exact ident_1 n w hn hr
  · rw [hl 2 hr]; exact ident_2 n w hn hr
end Go.Proofs.YtijbdinemjiepaaDoor
