/- The library's reading of a hash: its code and its length. -/
import Derived.Test.YtijbdinemjiepaaDoorCidU
namespace Go.Proofs.YtijbdinemjiepaaDoor
open Go.RowKit

theorem results_tmp4 {fn : Func} {t u v x : Tmp} (h : fn.results = #[.tmp t, .tmp u, .tmp v, .tmp x]) (tmps : Array Value) (P : Program) (w : World) :
    (results fn tmps).run P w = .ok (.tuple #[tmps.getD t undef, tmps.getD u undef, tmps.getD v undef, tmps.getD x undef]) w := by
  simp [results, h]
/-- A hash: a code, a number of bytes, so many bytes. -/
def mhash (code : Nat) (d : List UInt8) : List UInt8 := uv code ++ (uv d.length ++ d)
theorem cut_slice {w : World} {B n c k : Nat} {b o : Nat} {l : List UInt8} (h : Reads w B 1 (some ⟨b, o, none⟩) n (u8s l)) (hk : k ≤ n) (hnc : n ≤ c) : Reads w B 1 (if c = k then some ⟨b, o, none⟩ else some ⟨b, o + k, none⟩) (n - k) (u8s (l.drop k)) := by
  have h' := h.cut hk hnc
  rw [Nat.mul_one, ← u8s_drop] at h'
  simpa [add_plain] using h'
set_option maxRecDepth 100000 in
set_option maxHeartbeats 1000000 in
theorem mhUvarint_any (x : Nat) (b o n c B : Nat) (l rest : List UInt8) (w : World) (hx : x < 2097152) (hl : l = uv x ++ rest) (hr : Reads w B 1 (some ⟨b, o, none⟩) n (u8s l)) (hnc : n ≤ c) (hn : n ≤ 1000000) :
    Calls Tryd.prog 92 #[.slice (some ⟨b, o, none⟩) n c] w fun e w' => (∃ o' d, e = .returned (.tuple #[.int .u64 x, .slice (some ⟨b, o', none⟩) rest.length d, .nilIface]) ∧ rest.length ≤ d ∧ Reads w' B 1 (some ⟨b, o', none⟩) rest.length (u8s rest)) ∧ ∃ k, w' = w.drewN k := by
  have hln : l.length = n := by have := hr.1; rw [u8s_length] at this; omega
  have hp := uv_pos x
  have hc := cut_slice hr (k := (uv x).length) (by rw [← hln, hl, List.length_append]; omega) hnc
  have hd : l.drop (uv x).length = rest := by rw [hl]; simp
  have hnl : n - (uv x).length = rest.length := by rw [← hln, hl, List.length_append]; omega
  rw [hd, hnl] at hc
  have HF := Lib.hid (fromUvarint_any x (some ⟨b, o, none⟩) n c B l rest w hx hl hr hn)
  have HC := Lib.hid hc
  have HNL := Lib.hid hnl
  have hle : (uv x).length ≤ n := by rw [← hln, hl, List.length_append]; omega
  clear hr hl hc hd hln
  generalize (uv x).length = k at hp HF HC HNL hle
  go_enter Tryd.func92, Tryd.ntmps92
  go_wp2_with (first | (go_at_call 67; refine HF.out.mono ?_; rintro e w' ⟨rfl, rfl⟩) | fail)
  by_cases hck : c = k
  · subst hck
    have hc := HC.out
    rw [if_pos rfl] at hc
    have hn0 : rest.length = 0 := by have := HNL.out; omega
    have HC2 := Lib.hid hc
    have HN0 := Lib.hid hn0
    clear hc hn0 HC
    go_quiet (fail)
    go_wp2
    go_ret3
    have h := HC2.out
    rw [HN0.out] at h ⊢
    exact ⟨⟨o, 0, rfl, Nat.le_refl _, h.drewN _⟩, _, rfl⟩
  · have hc := HC.out
    rw [if_neg hck] at hc
    have HC2 := Lib.hid hc
    clear hc HC
    go_quiet (fail)
    go_wp2
    go_ret3
    refine ⟨⟨o + k, c - k, ?_, by have := HNL.out; omega, HC2.out.drewN _⟩, _, rfl⟩
    rw [← HNL.out]
    rfl
set_option maxRecDepth 100000 in
set_option maxHeartbeats 1000000 in
theorem readHash_any (code : Nat) (d : List UInt8) (b o n c B : Nat) (w : World) (hx : code < 2097152) (hd : d.length ≤ 1000) (hr : Reads w B 1 (some ⟨b, o, none⟩) n (u8s (mhash code d))) (hnc : n ≤ c) :
    Calls Tryd.prog 84 #[.slice (some ⟨b, o, none⟩) n c] w fun e w' => (∃ v, e = .returned (.tuple #[.int .i64 n, .int .u64 code, v, .nilIface])) ∧ ∃ k, w' = w.drewN k := by
  have hln : (mhash code d).length = n := by have := hr.1; rw [u8s_length] at this; omega
  have hp1 := uv_pos code
  have hp2 := uv_pos d.length
  have hle1 := uv_le code (by omega)
  have hle2 := uv_le d.length (by omega)
  have hlen : (uv code).length + ((uv d.length).length + d.length) = n := by rw [← hln, mhash, List.length_append, List.length_append]
  have hn2 : n ≤ 2000 := by omega
  have H1 := Lib.hid (mhUvarint_any code b o n c B (mhash code d) (uv d.length ++ d) w hx rfl hr hnc (by omega))
  have hl2 : (uv d.length ++ d).length = (uv d.length).length + d.length := by rw [List.length_append]
  rw [hl2] at H1
  have H2 : Hid (∀ (o' dd : Nat) (W : World), Reads W B 1 (some ⟨b, o', none⟩) ((uv d.length).length + d.length) (u8s (uv d.length ++ d)) → (uv d.length).length + d.length ≤ dd → _) := fun o' dd W h1 h2 => mhUvarint_any d.length b o' _ dd B (uv d.length ++ d) d W (by omega) rfl h1 h2 (by omega)
  clear hr hln hl2
  generalize (uv code).length = k1 at *
  generalize hk2 : (uv d.length).length = k2 at *
  go_enter Tryd.func84, Tryd.ntmps84
  go_wp2_with (first | (go_at_call 92; refine H1.out.mono ?_; clear H1; rintro e w1 ⟨⟨o1, d1, rfl, hd1, hr1⟩, k, rfl⟩; have HR1 := Lib.hid hr1; clear hr1) | (go_at_call 92; refine (H2.out o1 d1 _ HR1.out hd1).mono ?_; clear H2; rintro e w2 ⟨⟨o2, d2, rfl, hd2, hr2⟩, m, rfl⟩; clear hr2) | fail)
  go_quiet (fail)
  go_wp2
  (try simp only [Exit.inBlock, Exit.then])
  refine bodyPost_ret (results_tmp4 rfl _ _ _) rfl ?_
  exact ⟨⟨_, rfl⟩, by first | exact ⟨_, rfl⟩ | exact ⟨_, World.drewN_drewN _ _ _⟩ | exact ⟨_, by rw [World.drewN_drewN, World.drewN_drewN]⟩⟩
set_option maxRecDepth 100000 in
set_option maxHeartbeats 1000000 in
theorem mhFrom_any (code : Nat) (d : List UInt8) (b o n c B : Nat) (w : World) (hx : code < 2097152) (hd : d.length ≤ 1000) (hr : Reads w B 1 (some ⟨b, o, none⟩) n (u8s (mhash code d))) (hnc : n ≤ c) :
    Calls Tryd.prog 68 #[.slice (some ⟨b, o, none⟩) n c] w fun e w' => e = .returned (.tuple #[.int .i64 n, .slice (some ⟨b, o, none⟩) n c, .nilIface]) ∧ ∃ k, w' = w.drewN k := by
  have HH := Lib.hid (readHash_any code d b o n c B w hx hd hr hnc)
  clear hr
  go_enter Tryd.func68, Tryd.ntmps68
  go_wp2_with (first | (go_at_call 84; refine HH.out.mono ?_; rintro e w1 ⟨⟨v, rfl⟩, k, rfl⟩) | fail)
  go_quiet (fail)
  go_wp2
  go_ret3
  exact ⟨rfl, by first | exact ⟨_, rfl⟩ | exact ⟨_, World.drewN_drewN _ _ _⟩⟩
end Go.Proofs.YtijbdinemjiepaaDoor
