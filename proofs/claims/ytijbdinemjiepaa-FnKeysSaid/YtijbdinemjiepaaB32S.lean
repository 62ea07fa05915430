/- The reference's Base32 and Key. -/
import Derived.Deep.CutBlock
import Derived.Test.YtijbdinemjiepaaB32P
namespace Go.Proofs.Ytijbdinemjiepaa
open Go.RowKit Go.Lib

def smalls : ByteArray := ⟨#[97, 98, 99, 100, 101, 102, 103, 104, 105, 106, 107, 108, 109, 110, 111, 112, 113, 114, 115, 116, 117, 118, 119, 120, 121, 122, 50, 51, 52, 53, 54, 55]⟩
theorem smalls_piece : ∀ k, k < 32 → smalls.extract k (k + 1) = ⟨#[small k]⟩ := by decide
/-- A text of digits. -/
def txt (f : Nat → UInt8) (l : List Nat) : ByteArray := ⟨(l.map f).toArray⟩
theorem txt_add (f : Nat → UInt8) (l m : List Nat) : txt f l ++ txt f m = txt f (l ++ m) := by
  apply ByteArray.ext
  simp [txt, ByteArray.data_append]
theorem txt_size (f : Nat → UInt8) (l : List Nat) : (txt f l).size = l.length := by simp [txt, ByteArray.size]
theorem and31 (x : Nat) : x &&& 31 = x % 32 := Nat.and_two_pow_sub_one_eq_mod x 5
theorem or_low (h c : Nat) (hc : c < 256) : (h * 256) ||| c = h * 256 + c := by
  have := Nat.two_pow_add_eq_or_of_lt (i := 8) hc h
  rw [Nat.mul_comm]
  exact this.symm
theorem both64 (a b : Nat) (ha : a < 2 ^ 63) (hb : b < 2 ^ 63) : bits .and .i64 (a : Int) (b : Int) = ((a &&& b : Nat) : Int) ∧ bits .or .i64 (a : Int) (b : Int) = ((a ||| b : Nat) : Int) :=
  bits_nat .i64 63 (by decide) (fun n h0 h1 => by rw [IntKind.wrap_i64]; omega) a b ha hb
theorem orI {h y : Nat} (hh : h < 32) (hy : y < 256) : bits .or .i64 ((h : Int) * 256) (y : Int) = ((h * 256 + y : Nat) : Int) := by
  have := (both64 (h * 256) y (by omega) (by omega)).2
  rw [or_low h y hy] at this
  rw [← this, Int.natCast_mul]
  rfl
theorem andI {x : Nat} (hx : x < 2 ^ 63) : bits .and .i64 (x : Int) 31 = ((x % 32 : Nat) : Int) := by
  have := (both64 x 31 hx (by omega)).1
  rwa [and31] at this
theorem piece_of {k : Nat} (h : k < 32) : (⟨#[97, 98, 99, 100, 101, 102, 103, 104, 105, 106, 107, 108, 109, 110, 111, 112, 113, 114, 115, 116, 117, 118, 119, 120, 121, 122, 50, 51, 52, 53, 54, 55]⟩ : ByteArray).extract k (k + 1) = txt small [k] := smalls_piece k h
theorem shrI {h q k : Nat} (hk : h / 2 ^ q % 32 = k) (hh : h < 8192) : bits .and .i64 ((h : Int) / 2 ^ q) 31 = (k : Int) := by
  have e : ((h : Int) / 2 ^ q) = ((h / 2 ^ q : Nat) : Int) := by rw [Int.natCast_ediv, Int.natCast_pow]; rfl
  have : h / 2 ^ q ≤ h := Nat.div_le_self _ _
  rw [e, andI (by omega), hk]
theorem digit_bound {k : Nat} (h : k < 32) : wrap64 ((k : Int) + 1) = (k : Int) + 1 ∧ (k : Int) + 1 ≤ 32 ∧ ¬ (32 : Int) < (k : Int) + 1 ∧ (0 : Int) ≤ (k : Int) + 1 :=
  ⟨IntWalk.wrap64_in _ ⟨by omega, by omega⟩, by omega, by omega, by omega⟩
theorem digit_facts {h q k : Nat} (hk : h / 2 ^ q % 32 = k) : k < 32 ∧ wrap64 ((k : Int) + 1) = (k : Int) + 1 ∧ (k : Int) + 1 ≤ 32 ∧ ¬ (32 : Int) < (k : Int) + 1 ∧ (0 : Int) ≤ (k : Int) + 1 :=
  have h1 : k < 32 := hk ▸ Nat.mod_lt _ (Nat.succ_pos _)
  ⟨h1, digit_bound h1⟩
theorem out_small {n : Nat} {l : List UInt8} {pr X : List Nat} (h : pr ++ X = spd 0 0 l) (hl : l.length = n) (hn : n ≤ 300) : (txt small pr).size ≤ 1000 := by
  have h1 := congrArg List.length h
  rw [spd_enc, enc5_length, List.length_append] at h1
  rw [txt_size]
  omega
theorem maskI {h q : Nat} (hh : h < 8192) (hq : q < 5) : bits .and .i64 (h : Int) (wrap64 (wrap64 ((2 : Int) ^ q) - 1)) = ((h % 2 ^ q : Nat) : Int) := by
  have h1 := (both64 h (2 ^ q - 1) (by omega) (by
    have : 2 ^ q ≤ 2 ^ 4 := Nat.pow_le_pow_right (by omega) (by omega)
    omega)).1
  rw [Nat.and_two_pow_sub_one_eq_mod] at h1
  rw [← h1]
  congr 1
  have hb : ∀ q, q < 5 → wrap64 (wrap64 ((2 : Int) ^ q) - 1) = ((2 ^ q - 1 : Nat) : Int) := by
    intro q hq
    have h2 : (2 : Int) ^ q = ((2 ^ q : Nat) : Int) := by rw [Int.natCast_pow]; rfl
    have h3 : 2 ^ q ≤ 2 ^ 4 := Nat.pow_le_pow_right (by omega) (by omega)
    have h4 : 0 < 2 ^ q := Nat.two_pow_pos q
    rw [h2]
    generalize 2 ^ q = P at *
    rw [IntWalk.wrap64_in (P : Int) ⟨by omega, by omega⟩, IntWalk.wrap64_in _ ⟨by omega, by omega⟩]
    omega
  exact hb q hq
theorem shlI {h r k : Nat} (hk : h * 2 ^ (5 - r) % 32 = k) (hh : h < 32) : bits .and .i64 (wrap64 ((h : Int) * 2 ^ (5 - r))) 31 = (k : Int) := by
  have e : ((h : Int) * 2 ^ (5 - r)) = ((h * 2 ^ (5 - r) : Nat) : Int) := by rw [Int.natCast_mul, Int.natCast_pow]; rfl
  have h1 : 2 ^ (5 - r) ≤ 2 ^ 5 := Nat.pow_le_pow_right (by omega) (by omega)
  have h2 : h * 2 ^ (5 - r) ≤ 32 * 2 ^ 5 := Nat.mul_le_mul (by omega) h1
  rw [e]
  generalize h * 2 ^ (5 - r) = P at *
  rw [IntWalk.wrap64_in (P : Int) ⟨by omega, by omega⟩, andI (by omega), hk]
set_option maxRecDepth 100000 in
set_option maxHeartbeats 4000000 in
theorem base32_any (A : Option Addr) (n c B : Nat) (l : List UInt8) (w : World) (hr : Reads w B 1 A n (u8s l)) (hn : n ≤ 300) :
    Calls Try.prog 19 #[.slice A n c] w fun e w' => e = .returned (.string (txt small (enc5 l))) ∧ w' = w := by
  have hln : l.length = n := by have := hr.1; rw [u8s_length] at this; omega
  have HR := Lib.hid hr
  have HLN := Lib.hid hln
  have HS := Lib.hid (spd_enc l)
  rw [← spd_enc]
  clear hr hln
  go_enter Try.func19, Try.ntmps19
  go_wp2
  go_loopw [3, 4, 5, 12] (fun so sh sb si wr => wr = w ∧ ∃ (j h r : Nat) (pre : List Nat), j ≤ n ∧ si = .int .i64 j ∧ so = .string (txt small pre) ∧ sh = .int .i64 h ∧ sb = .int .i64 r ∧ r < 5 ∧ h < 32 ∧ Hid (pre ++ spd h r (l.drop j) = spd 0 0 l)) (fun _ _ _ si _ => n - (intOf si).toNat)
  case atStart => exact ⟨rfl, 0, 0, 0, [], Nat.zero_le _, rfl, rfl, rfl, rfl, by omega, by omega, rfl⟩
  case round =>
    obtain ⟨rfl, j, h, r, pre, hj, rfl, rfl, rfl, rfl, hr5, hh, HP⟩ := hrel
    by_cases hlt : j < n
    · obtain ⟨b, o, rfl, hbB, hat⟩ := HR.out.lit hlt
      have hjl : j < l.length := by have := HLN.out; omega
      have k1 := hat j _ (u8s_at l j hjl)
      have hd : l.drop j = l[j] :: l.drop (j + 1) := List.drop_eq_getElem_cons hjl
      obtain ⟨x, hx⟩ : ∃ x, l[j] = x := ⟨_, rfl⟩
      rw [hx] at k1 hd
      have hx8 : x.toNat < 256 := UInt8.toNat_lt _
      have HD := Lib.hid hd
      clear hat hx hd
      obtain ⟨y, hy⟩ : ∃ y, x.toNat = y := ⟨_, rfl⟩
      rw [hy] at k1 hx8
      have HY := Lib.hid hy
      have g1 : (j : Int) < n := by omega
      have e1 := orI hh hx8
      have hH : h * 256 + y < 8192 := by omega
      have HNX : Hid (spd h r (l.drop j) = em (h * 256 + y) (r + 8) ++ spd ((h * 256 + y) % 2 ^ ((r + 8) % 5)) ((r + 8) % 5) (l.drop (j + 1))) := by show _ = _; rw [HD.out, spd, HY.out]
      clear hy HD HY
      generalize h * 256 + y = hv at *
      go_wp2
      go_loopw [3, 5] (fun so sb wx => wx = wr ∧ ∃ (q : Nat) (pr : List Nat), so = .string (txt small pr) ∧ sb = .int .i64 q ∧ q ≤ 12 ∧ q % 5 = (r + 8) % 5 ∧ Hid (pr ++ (em hv q ++ spd (hv % 2 ^ ((r + 8) % 5)) ((r + 8) % 5) (l.drop (j + 1))) = spd 0 0 l)) (fun _ sb _ => (intOf sb).toNat)
      case atStart => exact ⟨rfl, r + 8, pre, rfl, by go_num, by omega, rfl, by show _ = _; rw [← HP.out, HNX.out]⟩
      case round =>
        obtain ⟨rfl, q, pr, rfl, rfl, hq12, hqr, HQ⟩ := hrel
        by_cases hq : 5 ≤ q
        · have g2 : (5 : Int) ≤ (q : Int) := by omega
          obtain ⟨k, hk⟩ : ∃ k, hv / 2 ^ (q - 5) % 32 = k := ⟨_, rfl⟩
          have hk32 : k < 32 := (digit_facts hk).1
          have e2 := shrI hk hH
          have e3 := piece_of hk32
          have HK := Lib.hid hk
          have HC := Lib.hid (txt_add small pr [k])
          have HE3 := Lib.hid e3
          clear e3
          have hsz := out_small HQ.out HLN.out hn
          have hsz1 : (txt small [k]).size = 1 := rfl
          clear hk
          generalize txt small [k] = tk at *
          generalize txt small pr = tp at *
          go_upto_region 10 with fail
          have e3 := HE3.out
          have h32 : (⟨#[97, 98, 99, 100, 101, 102, 103, 104, 105, 106, 107, 108, 109, 110, 111, 112, 113, 114, 115, 116, 117, 118, 119, 120, 121, 122, 50, 51, 52, 53, 54, 55]⟩ : ByteArray).size = 32 := rfl
          clear HE3 e2
          generalize (⟨#[97, 98, 99, 100, 101, 102, 103, 104, 105, 106, 107, 108, 109, 110, 111, 112, 113, 114, 115, 116, 117, 118, 119, 120, 121, 122, 50, 51, 52, 53, 54, 55]⟩ : ByteArray) = sm at *
          go_wp2
          go_roundw
          case rel =>
            refine ⟨trivial, q - 5, pr ++ [k], congrArg Value.string HC.out, by go_num, by omega, by omega, ?_⟩
            show _ = _
            rw [← HQ.out, em_more hq, HK.out, List.append_assoc]
            rfl
          case measure => simp [intOf]; omega
        · have g2 : ¬ (5 : Int) ≤ (q : Int) := by omega
          have hq5 : q = (r + 8) % 5 := by omega
          have HQ2 : Hid (pr ++ spd (hv % 2 ^ q) q (l.drop (j + 1)) = spd 0 0 l) := by
            show _ = _
            have h := HQ.out
            rw [em_less (by omega), List.nil_append, ← hq5] at h
            exact h
          have hq4 : q < 5 := by omega
          clear hq5 hqr HQ
          go_wp2
          go_roundw
          case rel =>
            refine ⟨trivial, j + 1, hv % 2 ^ q, q, pr, by omega, by go_num, rfl, congrArg (Value.int .i64) (maskI hH hq4), rfl, hq4, ?_, HQ2.out⟩
            exact Nat.lt_of_lt_of_le (Nat.mod_lt _ (Nat.two_pow_pos q)) (Nat.le_trans (Nat.pow_le_pow_right (by omega) (show q ≤ 4 by omega)) (by decide))
          case measure => simp [intOf]; omega
    · have hjn : j = n := by omega
      have HP2 : Hid (pre ++ (if 0 < r then [h * 2 ^ (5 - r) % 32] else []) = spd 0 0 l) := by
        show _ = _
        have h1 := HP.out
        rw [hjn, List.drop_of_length_le (by have := HLN.out; omega), spd] at h1
        exact h1
      have hsz := out_small HP.out HLN.out hn
      have g1 : ¬ (j : Int) < n := by omega
      clear HP hjn
      by_cases hr0 : 0 < r
      · have g2 : (0 : Int) < (r : Int) := by omega
        obtain ⟨k, hk⟩ : ∃ k, h * 2 ^ (5 - r) % 32 = k := ⟨_, rfl⟩
        have hk32 : k < 32 := hk ▸ Nat.mod_lt _ (Nat.succ_pos _)
        have e2 := shlI hk hh
        have HP3 : Hid (pre ++ [k] = spd 0 0 l) := by show _ = _; have h1 := HP2.out; rw [if_pos hr0, hk] at h1; exact h1
        have HC := Lib.hid (txt_add small pre [k])
        have HE3 := Lib.hid (piece_of hk32)
        have hsz1 : (txt small [k]).size = 1 := rfl
        have e6 : (k : Int) + 1 ≤ 32 := by omega
        have e7 : ¬ (32 : Int) < (k : Int) + 1 := by omega
        have e8 : (0 : Int) ≤ (k : Int) + 1 := by omega
        clear hk HP2
        generalize txt small [k] = tk at *
        generalize txt small pre = tp at *
        go_upto_region 15 with fail
        have e3 := HE3.out
        have h32 : (⟨#[97, 98, 99, 100, 101, 102, 103, 104, 105, 106, 107, 108, 109, 110, 111, 112, 113, 114, 115, 116, 117, 118, 119, 120, 121, 122, 50, 51, 52, 53, 54, 55]⟩ : ByteArray).size = 32 := rfl
        clear HE3 e2
        generalize (⟨#[97, 98, 99, 100, 101, 102, 103, 104, 105, 106, 107, 108, 109, 110, 111, 112, 113, 114, 115, 116, 117, 118, 119, 120, 121, 122, 50, 51, 52, 53, 54, 55]⟩ : ByteArray) = sm at *
        go_wp2
        go_ret
        exact ⟨by rw [← HP3.out, ← HC.out]; rfl, rfl⟩
      · have g2 : ¬ (0 : Int) < (r : Int) := by omega
        have HP3 : Hid (pre = spd 0 0 l) := by show _ = _; have h1 := HP2.out; rw [if_neg hr0, List.append_nil] at h1; exact h1
        clear HP2
        go_wp2
        go_ret
        exact ⟨by rw [HP3.out]; rfl, rfl⟩
end Go.Proofs.Ytijbdinemjiepaa
