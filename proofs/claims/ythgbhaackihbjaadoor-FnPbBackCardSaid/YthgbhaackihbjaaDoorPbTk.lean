/- The reference's taking of a field: spec.pbTake. -/
import Derived.BigQuiet
import Derived.Test.YthgbhaackihbjaaDoorRdU
import Derived.Test.YthgbhaackihbjaaDoorFlP
namespace Go.Proofs.YthgbhaackihbjaaDoor
open Go.RowKit

theorem results_tmp5 {fn : Func} {t u v x y : Tmp} (h : fn.results = #[.tmp t, .tmp u, .tmp v, .tmp x, .tmp y]) (tmps : Array Value) (P : Program) (w : World) :
    (results fn tmps).run P w = .ok (.tuple #[tmps.getD t undef, tmps.getD u undef, tmps.getD v undef, tmps.getD x undef, tmps.getD y undef]) w := by
  simp [results, h]
theorem cut_slice {w : World} {B n c k : Nat} {b o : Nat} {l : List UInt8} (h : Reads w B 1 (some ⟨b, o, none⟩) n (u8s l)) (hk : k ≤ n) (hnc : n ≤ c) : Reads w B 1 (if c = k then some ⟨b, o, none⟩ else some ⟨b, o + k, none⟩) (n - k) (u8s (l.drop k)) := by
  have h' := h.cut hk hnc
  rw [Nat.mul_one, ← u8s_drop] at h'
  simpa [add_plain] using h'
theorem head_slice {w : World} {B n k : Nat} {A : Option Addr} {l : List UInt8} (h : Reads w B 1 A n (u8s l)) (hk : k ≤ n) : Reads w B 1 A k (u8s (l.take k)) := by
  have h' := h.head_ hk
  rw [Nat.mul_one, ← u8s_take] at h'
  exact h'
theorem low3 (key : Nat) (hk : key < 18446744073709551616) : bits .and .u64 (key : Int) 7 = ((key % 8 : Nat) : Int) := by
  have h := u64_and_nat key 7 hk (by omega)
  rw [Nat.and_two_pow_sub_one_eq_mod key 3] at h
  exact h
/-- What the taking of a field hands back: no field. -/
def ptNo : Value := .tuple #[.int .u64 0, .int .i64 0, .int .u64 0, .slice none 0 0, .int .i64 0]
/-- What the taking of a field hands back. -/
def PtIs (w : World) (B : Nat) (l : List UInt8) (v : Value) : Prop :=
  (pt l = none ∧ v = ptNo) ∨ ∃ t A c, pt l = some t ∧ v = .tuple #[.int .u64 (t.at_ : Nat), .int .i64 (t.kind : Nat), .int .u64 (t.num : Nat), .slice A t.val.length c, .int .i64 (t.size : Nat)] ∧ t.val.length ≤ c ∧ Reads w B 1 A t.val.length (u8s t.val) ∧ c ≤ 9223372036854775807
theorem PtIs.no {w : World} {B : Nat} {l : List UInt8} (h : pt l = none) : PtIs w B l ptNo := .inl ⟨h, rfl⟩
set_option maxRecDepth 100000 in
set_option maxHeartbeats 1000000 in
theorem take_torn1 (A : Option Addr) (n c : Nat) (w : World) (HF : Hid (Calls Tryd.prog 14 #[.slice A n c] w fun e w' => e = .returned (.tuple #[.int .u64 0, .int .i64 0]) ∧ w' = w)) :
    Calls Tryd.prog 15 #[.slice A n c] w fun e w' => e = .returned ptNo ∧ ∃ j, w' = w.drewN j := by
  go_enter Tryd.func15, Tryd.ntmps15
  go_wp2_with (first | (go_at_call 14; refine HF.out.mono ?_; clear HF; rintro e w1 ⟨rfl, rfl⟩) | (go_at_call 14; refine HG.out.mono ?_; clear HG; rintro e w1 ⟨rfl, rfl⟩) | fail)
  (try simp only [Exit.inBlock, Exit.then])
  refine bodyPost_ret (results_tmp5 rfl _ _ _) rfl ?_
  exact ⟨rfl, 0, rfl⟩

set_option maxRecDepth 100000 in
set_option maxHeartbeats 1000000 in
theorem take_torn0 (b o k key : Nat) (w : World) (k1 : 1 ≤ k) (hn : k ≤ 9223372036854775807) (HF : Hid (Calls Tryd.prog 14 #[.slice (some ⟨b, o, none⟩) k k] w fun e w' => e = .returned (.tuple #[.int .u64 key, .int .i64 k]) ∧ w' = w)) (HG : Hid (∀ A : Option Addr, Calls Tryd.prog 14 #[.slice A 0 0] w fun e w' => e = .returned (.tuple #[.int .u64 0, .int .i64 0]) ∧ w' = w)) :
    Calls Tryd.prog 15 #[.slice (some ⟨b, o, none⟩) k k] w fun e w' => e = .returned ptNo ∧ ∃ j, w' = w.drewN j := by
  go_enter Tryd.func15, Tryd.ntmps15
  go_wp2_with (first | (go_at_call 14; refine HF.out.mono ?_; clear HF; rintro e w1 ⟨rfl, rfl⟩) | (go_at_call 14; refine (HG.out _).mono ?_; clear HG; rintro e w1 ⟨rfl, rfl⟩) | fail)
  (try simp only [Exit.inBlock, Exit.then])
  refine bodyPost_ret (results_tmp5 rfl _ _ _) rfl ?_
  exact ⟨rfl, 0, rfl⟩

set_option maxRecDepth 100000 in
set_option maxHeartbeats 1000000 in
theorem take_torn2 (b o n c k key : Nat) (w : World) (k1 : 1 ≤ k) (hkn : k ≤ n) (hck : ¬ c = k) (HF : Hid (Calls Tryd.prog 14 #[.slice (some ⟨b, o, none⟩) n c] w fun e w' => e = .returned (.tuple #[.int .u64 key, .int .i64 k]) ∧ w' = w)) (HG : Hid (Calls Tryd.prog 14 #[.slice (some ⟨b, o + k, none⟩) (n - k) (c - k)] w fun e w' => e = .returned (.tuple #[.int .u64 0, .int .i64 0]) ∧ w' = w)) :
    Calls Tryd.prog 15 #[.slice (some ⟨b, o, none⟩) n c] w fun e w' => e = .returned ptNo ∧ ∃ j, w' = w.drewN j := by
  go_enter Tryd.func15, Tryd.ntmps15
  go_wp2_with (first | (go_at_call 14; refine HF.out.mono ?_; clear HF; rintro e w1 ⟨rfl, rfl⟩) | (go_at_call 14; refine HG.out.mono ?_; clear HG; rintro e w1 ⟨rfl, rfl⟩) | fail)
  (try simp only [Exit.inBlock, Exit.then])
  refine bodyPost_ret (results_tmp5 rfl _ _ _) rfl ?_
  exact ⟨rfl, 0, rfl⟩

set_option maxRecDepth 100000 in
set_option maxHeartbeats 1000000 in
theorem take_num (b o n c k key m x : Nat) (w : World) (k1 : 1 ≤ k) (hkn : k ≤ n) (hnc : n ≤ c) (hn : c ≤ 9223372036854775807) (hck : ¬ c = k) (m1 : 1 ≤ m) (hkm : k + m ≤ n) (e7 : bits .and .u64 (key : Int) 7 = 0) (HF : Hid (Calls Tryd.prog 14 #[.slice (some ⟨b, o, none⟩) n c] w fun e w' => e = .returned (.tuple #[.int .u64 key, .int .i64 k]) ∧ w' = w)) (HG : Hid (Calls Tryd.prog 14 #[.slice (some ⟨b, o + k, none⟩) (n - k) (c - k)] w fun e w' => e = .returned (.tuple #[.int .u64 x, .int .i64 m]) ∧ w' = w)) :
    Calls Tryd.prog 15 #[.slice (some ⟨b, o, none⟩) n c] w fun e w' => e = .returned (.tuple #[.int .u64 (key / 8 : Nat), .int .i64 0, .int .u64 x, .slice none 0 0, .int .i64 ((k + m : Nat))]) ∧ ∃ j, w' = w.drewN j := by
  go_enter Tryd.func15, Tryd.ntmps15
  go_wp2_with (first | (go_at_call 14; refine HF.out.mono ?_; clear HF; rintro e w1 ⟨rfl, rfl⟩) | (go_at_call 14; refine HG.out.mono ?_; clear HG; rintro e w1 ⟨rfl, rfl⟩) | fail)
  (try simp only [Exit.inBlock, Exit.then])
  refine bodyPost_ret (results_tmp5 rfl _ _ _) rfl ?_
  exact ⟨rfl, 0, rfl⟩

set_option maxRecDepth 100000 in
set_option maxHeartbeats 1000000 in
theorem take_bytes0 (b o k key m : Nat) (w : World) (k1 : 1 ≤ k) (hn : k + m ≤ 9223372036854775807) (m1 : 1 ≤ m) (e7 : bits .and .u64 (key : Int) 7 = 2) (HF : Hid (Calls Tryd.prog 14 #[.slice (some ⟨b, o, none⟩) (k + m) (k + m)] w fun e w' => e = .returned (.tuple #[.int .u64 key, .int .i64 k]) ∧ w' = w)) (HG : Hid (Calls Tryd.prog 14 #[.slice (some ⟨b, o + k, none⟩) m m] w fun e w' => e = .returned (.tuple #[.int .u64 0, .int .i64 m]) ∧ w' = w)) :
    Calls Tryd.prog 15 #[.slice (some ⟨b, o, none⟩) (k + m) (k + m)] w fun e w' => e = .returned (.tuple #[.int .u64 (key / 8 : Nat), .int .i64 2, .int .u64 0, .slice (some ⟨b, o, none⟩) 0 (k + m - (k + m)), .int .i64 ((k + m : Nat))]) ∧ ∃ j, w' = w.drewN j := by
  go_enter Tryd.func15, Tryd.ntmps15
  go_wp2_with (first | (go_at_call 14; refine HF.out.mono ?_; clear HF; rintro e w1 ⟨rfl, rfl⟩) | (go_at_call 14; refine HG.out.mono ?_; clear HG; rintro e w1 ⟨rfl, rfl⟩) | fail)
  go_quiet (fail)
  go_wp2
  (try simp only [Exit.inBlock, Exit.then])
  refine bodyPost_ret (results_tmp5 rfl _ _ _) rfl ?_
  exact ⟨rfl, _, rfl⟩

set_option maxRecDepth 100000 in
set_option maxHeartbeats 1000000 in
theorem take_bytes (b o n c k key m x : Nat) (w : World) (k1 : 1 ≤ k) (hkn : k ≤ n) (hnc : n ≤ c) (hn : c ≤ 9223372036854775807) (hck : ¬ c = k) (m1 : 1 ≤ m) (hkm : k + m ≤ n) (s3 : x < 9223372036854775808) (e7 : bits .and .u64 (key : Int) 7 = 2) (hcm : ¬ c = k + m) (hx : k + m + x ≤ n) (HF : Hid (Calls Tryd.prog 14 #[.slice (some ⟨b, o, none⟩) n c] w fun e w' => e = .returned (.tuple #[.int .u64 key, .int .i64 k]) ∧ w' = w)) (HG : Hid (Calls Tryd.prog 14 #[.slice (some ⟨b, o + k, none⟩) (n - k) (c - k)] w fun e w' => e = .returned (.tuple #[.int .u64 x, .int .i64 m]) ∧ w' = w)) :
    Calls Tryd.prog 15 #[.slice (some ⟨b, o, none⟩) n c] w fun e w' => e = .returned (.tuple #[.int .u64 (key / 8 : Nat), .int .i64 2, .int .u64 0, .slice (some ⟨b, o + (k + m), none⟩) (k + m + x - (k + m)) (c - (k + m)), .int .i64 ((k + m + x : Nat))]) ∧ ∃ j, w' = w.drewN j := by
  have f1 : IntKind.i64.wrap (x : Int) = x := by rw [IntKind.wrap_i64]; omega
  have f2 : IntKind.u64.wrap ((n : Int) - k - m) = (n : Int) - k - m := IntWalk.u64_in _ ⟨by omega, by omega⟩
  have hle : (x : Int) ≤ (n : Int) - k - m := by omega
  go_enter Tryd.func15, Tryd.ntmps15
  go_wp2_with (first | (go_at_call 14; refine HF.out.mono ?_; clear HF; rintro e w1 ⟨rfl, rfl⟩) | (go_at_call 14; refine HG.out.mono ?_; clear HG; rintro e w1 ⟨rfl, rfl⟩) | fail)
  go_quiet (fail)
  go_wp2
  (try simp only [Exit.inBlock, Exit.then])
  refine bodyPost_ret (results_tmp5 rfl _ _ _) rfl ?_
  exact ⟨rfl, _, rfl⟩

set_option maxRecDepth 100000 in
set_option maxHeartbeats 1000000 in
theorem take_long (b o n c k key m x : Nat) (w : World) (k1 : 1 ≤ k) (hkn : k ≤ n) (hnc : n ≤ c) (hn : c ≤ 9223372036854775807) (hck : ¬ c = k) (m1 : 1 ≤ m) (hkm : k + m ≤ n) (s3 : x < 9223372036854775808) (e7 : bits .and .u64 (key : Int) 7 = 2) (hx : ¬ k + m + x ≤ n) (HF : Hid (Calls Tryd.prog 14 #[.slice (some ⟨b, o, none⟩) n c] w fun e w' => e = .returned (.tuple #[.int .u64 key, .int .i64 k]) ∧ w' = w)) (HG : Hid (Calls Tryd.prog 14 #[.slice (some ⟨b, o + k, none⟩) (n - k) (c - k)] w fun e w' => e = .returned (.tuple #[.int .u64 x, .int .i64 m]) ∧ w' = w)) :
    Calls Tryd.prog 15 #[.slice (some ⟨b, o, none⟩) n c] w fun e w' => e = .returned ptNo ∧ ∃ j, w' = w.drewN j := by
  have f1 : IntKind.i64.wrap (x : Int) = x := by rw [IntKind.wrap_i64]; omega
  have f2 : IntKind.u64.wrap ((n : Int) - k - m) = (n : Int) - k - m := IntWalk.u64_in _ ⟨by omega, by omega⟩
  have hle : ¬ (x : Int) ≤ (n : Int) - k - m := by omega
  go_enter Tryd.func15, Tryd.ntmps15
  go_wp2_with (first | (go_at_call 14; refine HF.out.mono ?_; clear HF; rintro e w1 ⟨rfl, rfl⟩) | (go_at_call 14; refine HG.out.mono ?_; clear HG; rintro e w1 ⟨rfl, rfl⟩) | fail)
  (try simp only [Exit.inBlock, Exit.then])
  refine bodyPost_ret (results_tmp5 rfl _ _ _) rfl ?_
  exact ⟨rfl, 0, rfl⟩

set_option maxRecDepth 100000 in
set_option maxHeartbeats 1000000 in
theorem take_other (b o n c k key m x : Nat) (w : World) (k1 : 1 ≤ k) (hkn : k ≤ n) (hck : ¬ c = k) (m1 : 1 ≤ m) (q : Nat) (e7 : bits .and .u64 (key : Int) 7 = q) (h0 : ¬ q = 0) (h2 : ¬ q = 2) (HF : Hid (Calls Tryd.prog 14 #[.slice (some ⟨b, o, none⟩) n c] w fun e w' => e = .returned (.tuple #[.int .u64 key, .int .i64 k]) ∧ w' = w)) (HG : Hid (Calls Tryd.prog 14 #[.slice (some ⟨b, o + k, none⟩) (n - k) (c - k)] w fun e w' => e = .returned (.tuple #[.int .u64 x, .int .i64 m]) ∧ w' = w)) :
    Calls Tryd.prog 15 #[.slice (some ⟨b, o, none⟩) n c] w fun e w' => e = .returned ptNo ∧ ∃ j, w' = w.drewN j := by
  go_enter Tryd.func15, Tryd.ntmps15
  go_wp2_with (first | (go_at_call 14; refine HF.out.mono ?_; clear HF; rintro e w1 ⟨rfl, rfl⟩) | (go_at_call 14; refine HG.out.mono ?_; clear HG; rintro e w1 ⟨rfl, rfl⟩) | fail)
  (try simp only [Exit.inBlock, Exit.then])
  refine bodyPost_ret (results_tmp5 rfl _ _ _) rfl ?_
  exact ⟨rfl, 0, rfl⟩
theorem pbTake_any (A : Option Addr) (n c B : Nat) (l : List UInt8) (w : World) (hr : Reads w B 1 A n (u8s l)) (hnc : n ≤ c) (hn : c ≤ 9223372036854775807) (hrun : runOk 0 l = true) :
    Calls Tryd.prog 15 #[.slice A n c] w fun e w' => (∃ v, e = .returned v ∧ PtIs w B l v) ∧ ∃ k, w' = w.drewN k := by
  have hln : l.length = n := by have := hr.1; rw [u8s_length] at this; omega
  have HF := Lib.hid (readUvarint_any A n c B l w hr hrun)
  have no : pt l = none → ∀ (e : Ending) (w' : World), (e = .returned ptNo ∧ ∃ j, w' = w.drewN j) → (∃ v, e = .returned v ∧ PtIs w B l v) ∧ ∃ k, w' = w.drewN k := fun h e w' ⟨h1, h2⟩ => ⟨⟨_, h1, PtIs.no h⟩, h2⟩
  cases hv : vi l with
  | none =>
    rw [viRes_none hv] at HF
    exact (take_torn1 A n c w HF).mono (no (pt_none1 hv))
  | some p =>
    obtain ⟨key, k⟩ := p
    rw [viRes_some hv] at HF
    obtain ⟨k1, k2⟩ := vi_len hv
    obtain ⟨s1, s2⟩ := vi_small hv hrun
    have hkn : k ≤ n := by omega
    obtain ⟨b, o, rfl, -⟩ := hr.lit (show 0 < n by omega)
    have hcut := cut_slice hr hkn hnc
    have hrun2 := runOk_drop hrun k
    have e7 := low3 key (by omega)
    have hq8 : key % 8 < 8 := by omega
    by_cases hck : c = k
    · have hd : l.drop k = [] := List.drop_of_length_le (by omega)
      obtain rfl : n = k := by omega
      subst hck
      have hw : vi (l.drop c) = none := by rw [hd]; rfl
      refine (take_torn0 b o c key w k1 hn HF (Lib.hid fun A => ?_)).mono (no (pt_none2 hv hw))
      have h := readUvarint_any A 0 0 B [] w Reads.none_ rfl
      rw [viRes_none rfl] at h
      exact h
    · rw [if_neg hck] at hcut
      have HG := Lib.hid (readUvarint_any _ (n - k) (c - k) B _ w hcut hrun2)
      cases hw : vi (l.drop k) with
      | none =>
        rw [viRes_none hw] at HG
        exact (take_torn2 b o n c k key w k1 hkn hck HF HG).mono (no (pt_none2 hv hw))
      | some q =>
        obtain ⟨x, m⟩ := q
        rw [viRes_some hw] at HG
        obtain ⟨m1, m2⟩ := vi_len hw
        obtain ⟨s3, s4⟩ := vi_small hw hrun2
        rw [List.length_drop] at m2
        have hkm : k + m ≤ n := by omega
        by_cases h0 : key % 8 = 0
        · rw [h0] at e7
          refine (take_num b o n c k key m x w k1 hkn hnc hn hck m1 hkm e7 HF HG).mono ?_
          rintro e w' ⟨h1, h2⟩
          exact ⟨⟨_, h1, .inr ⟨_, none, 0, pt_num hv hw h0, rfl, Nat.le_refl _, Reads.none_, by omega⟩⟩, h2⟩
        · by_cases h2 : key % 8 = 2
          · rw [h2] at e7
            by_cases hx : x ≤ l.length - k - m
            · have hpt := pt_bytes hv hw h2 hx
              have hval : ((l.drop (k + m)).take x).length = x := by rw [List.length_take, List.length_drop]; omega
              have hcut2 := head_slice (cut_slice hr hkm hnc) (show x ≤ n - (k + m) by omega)
              by_cases hcm : c = k + m
              · obtain rfl : x = 0 := by omega
                obtain rfl : n = c := by omega
                subst hcm
                rw [if_pos rfl] at hcut2
                rw [show k + m - k = m by omega] at HG
                refine (take_bytes0 b o k key m w k1 hn m1 e7 HF HG).mono ?_
                rintro e w' ⟨h3, h4⟩
                exact ⟨⟨_, h3, .inr ⟨_, some ⟨b, o, none⟩, k + m - (k + m), hpt, by rw [hval]; rfl, by rw [hval]; omega, by rw [hval]; exact hcut2, by omega⟩⟩, h4⟩
              · rw [if_neg hcm] at hcut2
                refine (take_bytes b o n c k key m x w k1 hkn hnc hn hck m1 hkm (by omega) e7 hcm (by omega) HF HG).mono ?_
                rintro e w' ⟨h3, h4⟩
                rw [show k + m + x - (k + m) = x by omega] at h3
                exact ⟨⟨_, h3, .inr ⟨_, some ⟨b, o + (k + m), none⟩, c - (k + m), hpt, by rw [hval]; rfl, by rw [hval]; omega, by rw [hval]; exact hcut2, by omega⟩⟩, h4⟩
            · exact (take_long b o n c k key m x w k1 hkn hnc hn hck m1 hkm (by omega) e7 (by omega) HF HG).mono (no (pt_long hv hw h2 hx))
          · exact (take_other b o n c k key m x w k1 hkn hck m1 (key % 8) e7 h0 h2 HF HG).mono (no (pt_other hv hw h0 h2))
end Go.Proofs.YthgbhaackihbjaaDoor
