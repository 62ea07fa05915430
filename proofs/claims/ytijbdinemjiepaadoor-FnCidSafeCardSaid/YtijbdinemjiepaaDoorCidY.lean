/- The law FnCidSafe: whatever the numbers, the call returns true. -/
import Derived.Deep.RegionHeld3
import Derived.Deep.Cut
import Derived.Test.YtijbdinemjiepaaDoorCidZ
namespace Go.Proofs.YtijbdinemjiepaaDoor
open Go.RowKit

/-- A slice that may be read. -/
def Has (W : World) (v : Value) (l : List UInt8) : Prop := ∃ A n c B, v = .slice A n c ∧ n = l.length ∧ l.length ≤ c ∧ B ≤ W.heap.size ∧ Reads W B 1 A l.length (u8s l)
theorem Has.alloc {W : World} {v : Value} {l : List UInt8} (h : Has W v l) (o : Obj) : Has (W.alloc o) v l := by
  obtain ⟨A, n, c, B, h1, hn, h2, h3, h4⟩ := h
  exact ⟨A, n, c, B, h1, hn, h2, by simp; omega, h4.alloc h3 o⟩
theorem Has.drew {W : World} {v : Value} {l : List UInt8} (h : Has W v l) : Has W.drew v l := h
theorem Has.below {W W' : World} {v : Value} {l : List UInt8} (h : Has W v l) (hb : Below W.heap.size W W') : Has W' v l := by
  obtain ⟨A, n, c, B, h1, hn, h2, h3, h4⟩ := h
  exact ⟨A, n, c, B, h1, hn, h2, Nat.le_trans h3 hb.size, h4.below (hb.mono h3)⟩
theorem Has.lit (W : World) (l : List UInt8) (b n : Nat) (hb : b = W.heap.size) (hn : n = l.length) : Has (W.alloc (.cells (u8s l).toArray 5)) (.slice (some ⟨b, 0, none⟩) n n) l := by
  subst hb hn
  have h := reads_lit W 5 (u8s l)
  rw [u8s_length] at h
  exact ⟨_, _, l.length, W.heap.size + 1, rfl, rfl, Nat.le_refl _, by simp, h⟩
theorem Has.own {W : World} {base : Nat} {v : Value} {l : List UInt8} (h : W.ownsRow base 5 1 v l.length (u8s l)) : Has W v l := by
  obtain ⟨A, c, rfl, hle, hr⟩ := own_shape h
  exact ⟨A, _, c, _, rfl, rfl, hle, Nat.le_refl _, hr⟩
/-- The cells that make lays. -/
def madeZ (n : Nat) : Array Value := (u8s (zeros n)).toArray
theorem made_z (n : Nat) : madeCells (Value.int .u8 0).cells n = madeZ n := by
  apply Array.ext'
  rw [show (Value.int .u8 0).cells = #[.int .u8 0] from rfl, madeCells_one]
  simp [madeZ, u8s, zeros]
theorem Has.made (W : World) (n b : Nat) (hb : b = W.heap.size) : Has (W.alloc (.cells (madeZ n) 5)) (.slice (some ⟨b, 0, none⟩) n n) (zeros n) := Has.lit W (zeros n) b n hb (by simp [zeros])
theorem Has.two (W : World) (K : UInt8) (b : Nat) (hb : b = W.heap.size) : Has (W.alloc (.cells #[.int .u8 1, .int .u8 (K.toNat : Int)] 5)) (.slice (some ⟨b, 0, none⟩) 2 2) [1, K] := Has.lit W [1, K] b 2 hb rfl
theorem cat_any {w W : World} {v1 v2 v3 v4 : Value} {b : Nat} (l1 l2 l3 l4 L : List UInt8) (hL : l1 ++ (l2 ++ (l3 ++ l4)) = L) (hb : b = W.heap.size) (hw : Below w.heap.size w W) (h1 : Has W v1 l1) (h2 : Has W v2 l2) (h3 : Has W v3 l3) (h4 : Has W v4 l4)
    (hl : L.length ≤ 2000) :
    Calls Tryd.prog 14 #[.slice (some ⟨b, 0, none⟩) 4 4] (W.alloc (.cells #[v1, v2, v3, v4] 30)) (fun e w' => ∃ A c, e = .returned (.slice A L.length c) ∧ L.length ≤ c ∧ Reads w' w'.heap.size 1 A L.length (u8s L) ∧ Below w.heap.size w w') := by
  subst hb hL
  obtain ⟨A1, n1, c1, B1, rfl, hn1, e1, q1, r1⟩ := h1
  obtain ⟨A2, n2, c2, B2, rfl, hn2, e2, q2, r2⟩ := h2
  obtain ⟨A3, n3, c3, B3, rfl, hn3, e3, q3, r3⟩ := h3
  obtain ⟨A4, n4, c4, B4, rfl, hn4, e4, q4, r4⟩ := h4
  have hv := ((((RowsB.nil W W.heap.size).cons (r4.more q4) e4).cons (r3.more q3) e3).cons (r2.more q2) e2).cons (r1.more q1) e1
  rw [← hn1, ← hn2, ← hn3, ← hn4] at hv
  have hbo := below_one W (.cells #[.slice A1 n1 c1, .slice A2 n2 c2, .slice A3 n3 c3, .slice A4 n4 c4] 30)
  have hr := reads_lit W 30 [.slice A1 n1 c1, .slice A2 n2 c2, .slice A3 n3 c3, .slice A4 n4 c4]
  have he : [l1, l2, l3, l4].flatten = l1 ++ (l2 ++ (l3 ++ l4)) := by simp
  refine (concat_u8 _ 4 4 (W.heap.size + 1) _ _ [l1, l2, l3, l4] _ hr ((hv.below hbo).more (by omega)) rfl (by simp) (by omega) (by rw [he]; omega)).mono ?_
  rw [he]
  rintro e w' ⟨⟨v, rfl, ho⟩, hb'⟩
  obtain ⟨A, c, rfl, hle, hrd⟩ := own_shape ho
  have h6 := below_alloc hw (.cells #[.slice A1 n1 c1, .slice A2 n2 c2, .slice A3 n3 c3, .slice A4 n4 c4] 30)
  exact ⟨A, c, rfl, hle, hrd, below_then h6 h6.size hb'⟩
theorem below_th {w w1 w2 : World} (h : Below w.heap.size w w1) (k : Below w1.heap.size w1 w2) : Below w.heap.size w w2 := below_then h h.size k
set_option maxRecDepth 100000 in
set_option maxHeartbeats 4000000 in
theorem law_any (c0 n cd : Nat) (a1 a2 a3 : Addr) (w : World) (hc0 : c0 < 4294967296) (hn : n < 256) (hcd : cd < 256) (he : Errs w a1 a2 a3) :
    Calls Tryd.prog 4 #[.int .u32 c0, .int .u8 n, .int .u8 cd] w (Ans w true) := by
  have e1 : bits .and .u32 (c0 : Int) 1048575 = ((c0 % 1048576 : Nat) : Int) := by
    have h := u32_and_nat c0 1048575 hc0 (by omega)
    rw [Nat.and_two_pow_sub_one_eq_mod c0 20] at h
    exact h
  have hk : c0 % 1048576 < 1048576 := by omega
  generalize c0 % 1048576 = code at e1 hk
  obtain ⟨K, hK, e2⟩ : ∃ K : UInt8, K.toNat < 128 ∧ bits .and .u8 (cd : Int) 127 = ((K.toNat : Nat) : Int) := by
    refine ⟨UInt8.ofNat (cd % 128), ?_, ?_⟩
    · simp; omega
    · have h := u8_and_nat cd 127 hcd (by omega)
      rw [Nat.and_two_pow_sub_one_eq_mod cd 7] at h
      exact h.trans (by simp; omega)
  have HE := Lib.hid he
  have MV : Hid True := trivial
  obtain ⟨i0, hi, hz0, hz1, hz2⟩ := info_parts infoU8
  have hmk : ∀ W : World, (Instr.makeSlice 30 (.int .u8 (n : Int)) (.int .u8 (n : Int))).run Tryd.prog W = .ok (.slice (some ⟨W.heap.size, 0, none⟩) n n) (W.alloc (.cells (madeZ n) 5)) := fun W => by
    have h := run_makeSlice (P := Tryd.prog) W 30 5 i0 (.int .u8 0) Tryd.underlying30 hi hz0 .u8 .u8 (n : Int) (n : Int) (by omega) (by omega) (by rw [hz1]; simp; omega) (by rw [hz2]; omega) (by omega)
    rw [hz1, Int.toNat_natCast, Nat.mul_one, made_z] at h
    exact h
  have f1 : IntKind.u64.wrap (code : Int) = code := IntWalk.u64_in _ ⟨by omega, by omega⟩
  have f2 : IntKind.u64.wrap (n : Int) = n := IntWalk.u64_in _ ⟨by omega, by omega⟩
  have f3 : IntKind.i64.wrap (n : Int) = n := by rw [IntKind.wrap_i64]; omega
  have hlen : ([1, K] ++ (uv code ++ (uv n ++ zeros n))).length ≤ 2000 := by
    have h1 := uv_le code (by omega)
    have h2 := uv_le n (by omega)
    simp [zeros]; omega
  have hcid : [1, K] ++ (uv code ++ (uv n ++ zeros n)) = cidBytes K code (zeros n) := by
    show _ = 1 :: K :: (uv code ++ (uv (zeros n).length ++ zeros n))
    simp [zeros]
  have hzl : (zeros n).length = n := by simp [zeros]
  obtain ⟨L, eL⟩ : ∃ L : List UInt8, L = [1, K] ++ (uv code ++ (uv n ++ zeros n)) := ⟨_, rfl⟩
  have hnil : 0 < L.length := by rw [eL]; simp
  rw [← eL] at hlen hcid
  have HLEN := Lib.hid hlen
  have HCID := Lib.hid hcid
  have HNIL := Lib.hid hnil
  have HZL := Lib.hid hzl
  have EL := Lib.hid eL
  clear he hi hz0 hz1 hz2 hlen hcid hnil hzl eL
  go_enter Tryd.func4, Tryd.ntmps4
  go_upto_region 2 with fail
  go_cut [7] from 8 (fun s7 wx => ∃ A c, s7 = .slice A L.length c ∧ Hid (Reads wx wx.heap.size 1 A L.length (u8s L)) ∧ Hid (Below w.heap.size w wx))
  case first =>
    go_region_held3 (fun _ => True) (exact trivial) (first | (go_at_call 15; clear MV; refine (varint_any code _ (by omega)).mono ?_; rintro e wa ⟨⟨va, rfl, hoa⟩, hba⟩; obtain ⟨A1, c1, rfl, hc1, hr1⟩ := own_shape hoa; have HVa := Lib.hid (Has.own hoa); have HBa := Lib.hid hba; clear hoa hba hr1 hc1) | (go_at_call 15; refine (varint_any n _ (by omega)).mono ?_; rintro e wb ⟨⟨vb, rfl, hob⟩, hbb⟩; obtain ⟨A2, c2, rfl, hc2, hr2⟩ := own_shape hob; have HVb := Lib.hid (Has.own hob); have HBb := Lib.hid hbb; clear hob hbb hr2 hc2) | (go_at_call 14; go_must (refine Calls.mono (cat_any (w := w) [1, K] (uv code) (uv n) (zeros n) L EL.out.symm (by simp) ?_ ?_ ?_ ?_ ?_ HLEN.out) ?_); go_must (focus (repeat (first | with_reducible exact Below.refl _ _ | with_reducible refine Below.drew ?_ | with_reducible refine below_alloc ?_ _ | with_reducible refine below_th ?_ HBb.out | with_reducible refine below_th ?_ HBa.out))); go_must (focus (repeat (first | with_reducible exact Has.two _ K _ (by simp) | with_reducible refine Has.drew ?_ | with_reducible refine Has.alloc ?_ _ | with_reducible refine Has.below ?_ HBb.out | with_reducible refine Has.below ?_ HBa.out))); go_must (focus (repeat (first | with_reducible exact HVa.out | with_reducible refine Has.drew ?_ | with_reducible refine Has.alloc ?_ _ | with_reducible refine Has.below ?_ HBb.out | with_reducible refine Has.below ?_ HBa.out))); go_must (focus (repeat (first | with_reducible exact HVb.out | with_reducible refine Has.drew ?_ | with_reducible refine Has.alloc ?_ _ | with_reducible refine Has.below ?_ HBb.out | with_reducible refine Has.below ?_ HBa.out))); go_must (focus (repeat (first | with_reducible exact Has.made _ n _ (by simp) | with_reducible refine Has.drew ?_ | with_reducible refine Has.alloc ?_ _ | with_reducible refine Has.below ?_ HBb.out | with_reducible refine Has.below ?_ HBa.out))); go_must (rintro e wc ⟨A3, c3, rfl, hc3, hr3, hb3⟩); go_must (have HB3 := Lib.hid hb3); go_must (have HR3 := Lib.hid hr3); go_must (clear hb3 hr3)) | fail)
    all_goals (go_wp2; go_meet; case rel => exact ⟨_, _, rfl, HR3, HB3⟩)
  case rest =>
    obtain ⟨A3, c3, rfl, HR3, HB3⟩ := hcut
    obtain ⟨b4, o4, rfl, _, _⟩ := HR3.out.lit (k := 0) HNIL.out
    have HI := Lib.hid (implSafe_any K code (zeros n) (some ⟨b4, o4, none⟩) _ c3 _ a1 a2 a3 _ rfl hK (by omega) (by rw [HZL.out]; omega) (by have h := HR3.out; rw [HCID.out] at h; rw [HCID.out]; exact h) HLEN.out (Nat.le_refl _) (HE.out.below HB3.out))
    rw [HZL.out] at HI
    clear HR3 HLEN HCID HNIL EL
    go_wp2_with (first | (go_at_call 16; refine HI.out.mono ?_; clear HI; rintro e w3 ⟨rfl, hb3⟩; have HB4 := Lib.hid (below_th HB3.out hb3); clear hb3) | (go_at_call 17; refine (safe_any code n _ (by omega) (by omega)).mono ?_; rintro e w4 ⟨rfl, hb4⟩; have HB5 := Lib.hid (below_th HB4.out hb4); clear hb4) | (go_at_call 18; refine (live_any a1 a2 a3 _ (HE.out.below HB5.out)).mono ?_; rintro e w5 ⟨rfl, hb5⟩; have HB6 := Lib.hid (below_th HB5.out hb5); clear hb5) | fail)
    go_ret
    exact ⟨rfl, HB6.out⟩
end Go.Proofs.YtijbdinemjiepaaDoor
