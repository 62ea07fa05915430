/- Contracts of the numbers in groups of 7 bits: sovUnixfs, encodeVarintUnixfs (into a buffer, in place), spec.Uvarint, spec.pbField, spec.pbNumber, spec.SameBytes. -/
import Derived.Test.YtocdbecakefnnaaDoorRows
import Derived.Test.YtocdbecakefnnaaDoorMem
import Derived.Test.YtocdbecakefnnaaDoorUvP
import Derived.Test.YtocdbecakefnnaaDoorLen64
import Derived.Laws.BitsAllLaws
import Derived.Deep.LoopGhost
import Derived.Outline
namespace Go.Proofs.YtocdbecakefnnaaDoor
open Go.RowKit

theorem infoU8w : (Tryd.prog.info? 5).map (fun i => (i.zero, i.size, i.bytes)) = some (some (.int .u8 0), 1, 1) := by kernel_rfl
theorem sov_any (x : Nat) (w : World) (hx : x < 18446744073709551616) : Calls Tryd.prog 45 #[.int .u64 (x : Int)] w fun e w' => e = .returned (.int .i64 ((uv x).length : Nat)) ∧ w = w' := by
  have h1 : bits .or .u64 (x : Int) 1 = ((x ||| 1 : Nat) : Int) := u64_or_nat x 1 hx (by omega)
  have hy : x ||| 1 < 18446744073709551616 := Nat.or_lt_two_pow (n := 64) hx (by omega)
  have e := sov_eq x hx
  have hl := uv_le x hx
  have hp := uv_pos x
  generalize x ||| 1 = y at h1 hy e
  have hb : Lib.bitLen y ≤ 70 := by omega
  generalize hL : (uv x).length = L at e hl hp ⊢
  have HE := Lib.hid e
  clear e hL
  go_enter Tryd.func45, Tryd.ntmps45
  go_wp2_with (go_at_call 61; refine (bits_Len64 _ _ hy).mono ?_; rintro e w' ⟨rfl, rfl⟩)
  go_ret
  refine ⟨?_, rfl⟩
  have h := HE.out
  have e2 : ((Lib.bitLen y : Nat) : Int) + 6 = (((Lib.bitLen y + 6 : Nat)) : Int) := by omega
  refine congrArg (fun z => Ending.returned (.int .i64 z)) ?_
  show (((Lib.bitLen y : Nat) : Int) + 6) / 7 = (L : Int)
  omega

/-- A stretch of bytes is written over. -/
def put (L : List UInt8) (p : Nat) (bs : List UInt8) : List UInt8 := L.take p ++ (bs ++ L.drop (p + bs.length))
theorem put_length (L : List UInt8) (p : Nat) (bs : List UInt8) (h : p + bs.length ≤ L.length) : (put L p bs).length = L.length := by
  simp [put]; omega
theorem put_nil (L : List UInt8) (p : Nat) : put L p [] = L := by simp [put]
theorem put_put (L : List UInt8) (p : Nat) (a b : List UInt8) (h : p + a.length + b.length ≤ L.length) : put (put L (p + a.length) b) p a = put L p (a ++ b) := by
  have h1 : (L.take (p + a.length)).length = p + a.length := by simp; omega
  unfold put
  rw [List.take_append_of_le_length (by omega), List.take_take, Nat.min_eq_left (by omega), List.drop_left' h1]
  simp [Nat.add_assoc]
theorem put_one (L : List UInt8) (p : Nat) (b : UInt8) (h : p < L.length) : L.set p b = put L p [b] := by
  unfold put
  rw [List.set_eq_take_append_cons_drop, if_pos h]
  simp
theorem set_put (L : List UInt8) (p : Nat) (a : List UInt8) (b : UInt8) (h : p + a.length < L.length) : (put L p a).set (p + a.length) b = put L p (a ++ [b]) := by
  have hl := put_length L p a (by omega)
  apply List.ext_getElem?
  intro i
  have h1 : (L.take p).length = p := by simp; omega
  simp only [put, List.getElem?_set, List.getElem?_append, List.length_append, h1, List.length_cons, List.length_nil, List.length_drop, List.getElem?_drop]
  by_cases h2 : i < p
  · rw [if_neg (by omega), if_pos h2, if_pos h2]
  · by_cases h3 : i - p < a.length
    · rw [if_neg (by omega), if_neg h2, if_neg h2, if_pos h3, if_pos (by omega), if_pos h3]
    · by_cases h4 : i = p + a.length
      · subst h4
        rw [if_pos rfl, if_pos (by omega), if_neg h2, if_neg h3, if_pos (by omega)]
        simp
      · rw [if_neg (by omega), if_neg h2, if_neg h2, if_neg h3, if_neg (by omega)]
        congr 1
        omega

theorem u8s_num (n : Nat) (h : n < 256) : u8s [UInt8.ofNat n] = [.int .u8 (n : Int)] := by
  show [Value.int .u8 ((UInt8.ofNat n).toNat : Int)] = _
  rw [UInt8.toNat_ofNat_of_lt' h]
/-- It returns a number; one buffer is turned, and reads as told. -/
structure PutAt (w : World) (g : Nat) (L : List UInt8) (v : Nat) (r : Ending) (w' : World) : Prop where
  ret : r = .returned (.int .i64 v)
  blk : Blk w' g 5 (u8s L).toArray
  only : w.grownBy w' (some g)
theorem blk_set {w : World} {g : Nat} {L : List UInt8} (h : Blk w g 5 (u8s L).toArray) (i : Nat) (b : UInt8) : Blk (w.setCell ⟨g, i, none⟩ (.int .u8 (b.toNat : Int))) g 5 (u8s (L.set i b)).toArray := by
  have := h.set_ i (.int .u8 (b.toNat : Int))
  simpa [u8s, List.map_set] using this
theorem blk_cell {w : World} {g : Nat} {L : List UInt8} (h : Blk w g 5 (u8s L).toArray) (i : Nat) (hi : i < L.length) : w.cell? ⟨g, i, none⟩ = some (.int .u8 ((L[i]).toNat : Int)) := by
  rw [h.cell, List.getElem?_toArray, u8s_at _ _ hi]
theorem num_i64 {a b : Int} (h : a = b) : Value.int .i64 a = .int .i64 b := by rw [h]
theorem low7 (v : Nat) (hv : v < 18446744073709551616) : bits .and .u64 (v : Int) 127 = ((v % 128 : Nat) : Int) := by
  have h : bits .and .u64 (v : Int) 127 = ((v &&& 127 : Nat) : Int) := u64_and_nat v 127 hv (by omega)
  rw [h, nat_mask7]
theorem high_bit (v : Nat) : bits .or .u64 ((v % 128 : Nat) : Int) 128 = ((v % 128 + 128 : Nat) : Int) := by
  have h : bits .or .u64 ((v % 128 : Nat) : Int) 128 = ((v % 128 ||| 128 : Nat) : Int) := u64_or_nat _ 128 (by omega) (by omega)
  rw [h, Nat.or_comm, nat_join 7 128 _ (by decide) (by omega), Nat.add_comm]
theorem ofNat_byte (n : Nat) (h : n < 256) : ((UInt8.ofNat n).toNat : Int) = (n : Int) := by
  rw [UInt8.toNat_ofNat_of_lt' h]

set_option maxRecDepth 100000 in
theorem encodeVarint_any (g n c o v : Nat) (L : List UInt8) (w : World) (hb : Blk w g 5 (u8s L).toArray) (hn : n ≤ L.length) (hn2 : n ≤ 140737488355328) (hv : v < 18446744073709551616) (ho : o ≤ n) (hk : (uv v).length ≤ o) :
    Calls Tryd.prog 56 #[.slice (some ⟨g, 0, none⟩) n c, .int .i64 o, .int .u64 v] w (PutAt w g (put L (o - (uv v).length) (uv v)) (o - (uv v).length)) := by
  have HB := Lib.hid hb
  clear hb
  generalize hk' : (uv v).length = k at hk ⊢
  have HK := Lib.hid hk'
  have hkp : 1 ≤ k := by have := uv_pos v; omega
  go_enter Tryd.func56, Tryd.ntmps56
  go_wp2_with (go_at_call 45; refine (sov_any _ _ hv).mono ?_; rw [hk']; rintro e w' ⟨rfl, rfl⟩; clear hk')
  obtain ⟨p, hp⟩ : ∃ p : Nat, o - k = p := ⟨_, rfl⟩
  rw [hp]
  go_loopw [1, 2] (fun a b wr => ∃ (j y : Nat) (pre : List UInt8), a = .int .i64 j ∧ b = .int .u64 y ∧ y < 18446744073709551616 ∧ j + (uv y).length = o ∧ Hid (pre ++ uv y = uv v) ∧ Hid (j = p + pre.length) ∧ Blk wr g 5 (u8s (put L p pre)).toArray ∧ w.grownBy wr (some g)) (fun _ b _ => (intOf b).toNat)
  case atStart => exact ⟨p, v, [], num_i64 (by omega), rfl, hv, by have := HK.out; omega, rfl, rfl, by rw [put_nil]; exact HB.out, World.grownBy.refl _ _⟩
  case round =>
    obtain ⟨j, y, pre, rfl, rfl, hy, hj, HPre, HJ, hblk, hg⟩ := hrel
    have hlen : pre.length + (uv y).length = k := by rw [← List.length_append, HPre.out]; exact HK.out
    have hpo : p + k = o := by omega
    have hyp := uv_pos y
    have hjp := HJ.out
    have hcl : (put L p pre).length = L.length := put_length L p pre (by omega)
    have hjl : j < (put L p pre).length := by omega
    have hcell := blk_cell hblk j hjl
    have hfr := hblk.frozen j
    generalize (put L p pre)[j] = old at hcell
    have hjn : j < n := by omega
    have HEQ := Lib.hid (And.intro hlen (And.intro hpo hj))
    clear hlen hpo
    by_cases hbig : 128 ≤ y
    · have e1 := low7 y hy
      have e2 := high_bit y
      have e3 := ofNat_byte (y % 128 + 128) (by omega)
      have hm : y % 128 + 128 ≤ 255 := by omega
      have hs := blk_set hblk j (UInt8.ofNat (y % 128 + 128))
      rw [e3, hjp, set_put L p pre _ (by have := HEQ.out; omega), ← hjp] at hs
      have hpre : (pre ++ [UInt8.ofNat (y % 128 + 128)]) ++ uv (y / 128) = uv v := by
        rw [← HPre.out, uv_great (show ¬ y < 128 by omega)]; simp
      have hl2 : (uv y).length = (uv (y / 128)).length + 1 := by rw [uv_great (show ¬ y < 128 by omega)]; simp
      generalize y % 128 = q at e1 e2 hm hs hpre
      generalize hQ : q + 128 = Q at e2 hm hs hpre
      have HS := Lib.hid hs
      have HP2 := Lib.hid hpre
      have HL2 := Lib.hid hl2
      have HJP := Lib.hid hjp
      have HY := Lib.hid hy
      clear hs hpre hl2 hjp hblk e3 hQ hjl hcl hy hv hj
      go_wp2
      go_roundw
      case rel => exact ⟨j + 1, y / 128, pre ++ [UInt8.ofNat Q], by go_num, by simp, by have := HY.out; omega, by have := HL2.out; have := HEQ.out; omega, HP2.out, by have := HJP.out; show _ = _; simp; omega, HS.out, only_trans hg (only_set _ _ _ _)⟩
      case measure => simp [intOf]; omega
    · have hy1 : uv y = [UInt8.ofNat y] := uv_small (by omega)
      have e3 := ofNat_byte y (by omega)
      have hs := blk_set hblk j (UInt8.ofNat y)
      rw [e3, hjp, set_put L p pre _ (by have := HEQ.out; omega), ← hy1, HPre.out, ← hjp] at hs
      have HS := Lib.hid hs
      clear hs hy1 e3 hjp hblk hcl hjl hy hv hj
      have hlt : (y : Int) < 128 := by omega
      go_wp2
      go_ret
      exact ⟨by simp; omega, by rw [hp]; exact HS.out, only_trans hg (only_set _ _ _ _)⟩
end Go.Proofs.YtocdbecakefnnaaDoor
