/- Numbers in groups of 7 bits, as the reference writes them. -/
import Derived.Test.YtijbdinemjiepaaDoorRows
import Derived.Test.YtijbdinemjiepaaDoorMem
import Derived.Test.YtijbdinemjiepaaDoorUvP
import Derived.Laws.BitsAllLaws
import Derived.Deep.LoopGhost
import Derived.Outline
namespace Go.Proofs.YtijbdinemjiepaaDoor
open Go.RowKit

theorem infoU8 : (Tryd.prog.info? 5).map (fun i => (i.zero, i.size, i.bytes)) = some (some (.int .u8 0), 1, 1) := by kernel_rfl
theorem u8s_num (n : Nat) (h : n < 256) : u8s [UInt8.ofNat n] = [.int .u8 (n : Int)] := by
  show [Value.int .u8 ((UInt8.ofNat n).toNat : Int)] = _
  rw [UInt8.toNat_ofNat_of_lt' h]
set_option maxRecDepth 100000 in
theorem varint_any (v : Nat) (w : World) (hv : v < 18446744073709551616) : Calls Tryd.prog 15 #[.int .u64 v] w (Owns w 5 1 (uv v).length (u8s (uv v))) := by
  obtain ⟨i0, hi, hz0, hz1, hz2⟩ := info_parts infoU8
  have hl10 := uv_le v hv
  go_enter Tryd.func15, Tryd.ntmps15
  go_wp2
  go_loopw [0, 3] (fun b s wr => ∃ (y : Nat) (pre : List UInt8), b = .int .u64 y ∧ Hid (y < 18446744073709551616) ∧ Hid (pre ++ uv y = uv v) ∧ wr.ownsRow w.heap.size 5 1 s pre.length (u8s pre) ∧ Below w.heap.size w wr) (fun b _ _ => (intOf b).toNat)
  case atStart => exact ⟨v, [], rfl, hv, rfl, World.ownsRow_nil _ _ _ _, Below.refl _ _⟩
  case round =>
    obtain ⟨y, pre, rfl, HY, HPre, hown, hbw⟩ := hrel
    have hpl : pre.length ≤ 10 := by have h1 := congrArg List.length HPre.out; rw [List.length_append] at h1; omega
    have HO := Lib.hid hown
    have b4 := hbw.size
    clear hown hv hl10
    generalize hn : pre.length = n at hpl HO ⊢
    have HN := Lib.hid hn
    clear hn
    have b1 : n + 1 ≤ maxLen := by unfold maxLen; omega
    have b2 : (n + 1) * 1 ≤ 140737488355328 := by omega
    by_cases hbig : 128 ≤ y
    · have e2 : bits .or .u8 ((y : Int) % 256) 128 = ((y % 128 + 128 : Nat) : Int) := by
        have h : bits .or .u8 ((y % 256 : Nat) : Int) 128 = ((y % 256 ||| 128 : Nat) : Int) := u8_or_nat _ 128 (by omega) (by omega)
        rw [show ((y : Int) % 256) = ((y % 256 : Nat) : Int) by omega, h]
        have h3 : y % 256 ||| 128 = y % 128 + 128 := by
          by_cases hb7 : y % 256 < 128
          · rw [show y % 128 = y % 256 by omega, Nat.or_comm, nat_join 7 128 _ (by decide) (by omega), Nat.add_comm]
          · rw [show y % 256 = 128 + y % 128 by omega, ← nat_join 7 128 (y % 128) (by decide) (by omega), Nat.or_comm, ← Nat.or_assoc, Nat.or_self, nat_join 7 128 (y % 128) (by decide) (by omega), Nat.add_comm]
        rw [h3]
      have e3 := u8s_num (y % 128 + 128) (by omega)
      have hpre : (pre ++ [UInt8.ofNat (y % 128 + 128)]) ++ uv (y / 128) = uv v := by
        rw [← HPre.out, uv_great (show ¬ y < 128 by omega)]; simp
      generalize y % 128 + 128 = Q at e2 hpre e3
      have HP2 := Lib.hid hpre
      have HE3 := Lib.hid e3
      clear hpre e3
      go_wp2_with (at_builtin; refine wpList_append_one rfl (.tmp 8) (.tmp 12) 30 rfl w.heap.size i0 (.int .u8 0) 1 Tryd.underlying30 hi hz0 hz1 hz2 rfl _ n _ rfl HO.out rfl rfl b1 b2 b4 ?_; rintro v2 w2 hown2 hg2 hat2 _; have HO2 := Lib.hid hown2; clear hown2 hat2)
      go_roundw
      case rel =>
        refine ⟨y / 128, pre ++ [UInt8.ofNat Q], by simp, by have := HY.out; show _ < _; omega, HP2.out, ?_, hbw.grown hg2 hbw.size (own_base HO.out)⟩
        have h := HO2.out
        rw [List.length_append, HN.out, u8s_append]
        rw [HE3.out]
        exact h
      case measure => simp [intOf]; omega
    · have hy1 : uv y = [UInt8.ofNat y] := uv_small (by omega)
      have e3 := u8s_num y (by omega)
      have hlt : (y : Int) < 128 := by omega
      have hm : (y : Int) % 256 = y := by omega
      have HY1 := Lib.hid hy1
      have HE3 := Lib.hid e3
      clear hy1 e3
      go_wp2_with (at_builtin; refine wpList_append_one rfl (.tmp 14) (.tmp 17) 30 rfl w.heap.size i0 (.int .u8 0) 1 Tryd.underlying30 hi hz0 hz1 hz2 rfl _ n _ rfl HO.out rfl rfl b1 b2 b4 ?_; rintro v2 w2 hown2 hg2 hat2 _; have HO2 := Lib.hid hown2; clear hown2 hat2)
      go_ret
      have h := HO2.out
      rw [← HE3.out, ← u8s_append, ← HY1.out, HPre.out] at h
      have hlen : n + 1 = (uv v).length := by rw [← HPre.out, List.length_append, HY1.out, HN.out]; rfl
      rw [hlen] at h
      exact ⟨⟨_, rfl, h⟩, hbw.grown hg2 hbw.size (own_base HO.out)⟩
end Go.Proofs.YtijbdinemjiepaaDoor
