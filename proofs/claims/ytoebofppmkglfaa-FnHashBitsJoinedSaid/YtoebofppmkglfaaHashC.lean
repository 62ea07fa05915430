/- Contracts of the thin package's HashBits, of slices.Equal at []int (of equal slices), of shardTakes and shardTaking. -/
import Derived.Test.YtoebofppmkglfaaHashB
import Derived.Test.YtoebofppmkglfaaSize
namespace Go.Proofs.Ytoebofppmkglfaa
open Go.RowKit

structure IhOut (w : World) (bs : List UInt8) (len : Nat) (takes : List Nat) (r : Ending) (w' : World) : Prop where
  ex : (takes.sum ≤ 8 * len ∧ ∃ v, r = .returned (.tuple #[v, .bool true]) ∧ w'.ownsRow w.heap.size 3 1 v takes.length (i64s (nums bs 0 takes))) ∨
    (8 * len < takes.sum ∧ r = .returned (.tuple #[.slice none 0 0, .bool false]))
  below : Below w.heap.size w w'

theorem implHash_any (A A2 : Option Addr) (len cap n c2 B : Nat) (bs : List UInt8) (takes : List Nat) (w : World) (hlen2 : len ≤ 100000) (hn : n ≤ 100000) (hr : Reads w B 1 A len (u8s bs)) (hr2 : Reads w B 1 A2 n (i64s (ints takes))) (hB : B ≤ w.heap.size) (ht : ∀ i ∈ takes, 1 ≤ i ∧ i ≤ 24) :
    Calls Try.prog 15 #[.slice A len cap, .slice A2 n c2] w (IhOut w bs len takes) := by
  have HR := Lib.hid hr
  have HR2 := Lib.hid hr2
  have HT := Lib.hid ht
  clear hr hr2 ht
  go_enter Try.func15, Try.ntmps15
  go_wp2_with fail
  refine (clone_u8 _ _ _ _ _ _ HR.out (u8s_one _) (by omega) hB).mono ?_
  rintro e w1 ⟨⟨v1, rfl, ho1, _⟩, hb1⟩
  obtain ⟨A1, c1, rfl, hc1, hr1⟩ := own_shape ho1
  have HR1 := Lib.hid hr1
  clear ho1 hr1
  go_wp2_with fail
  refine (clone_i64 _ _ _ _ _ _ (HR2.out.below (hb1.mono hB)) (i64s_one _) (by omega) (Nat.le_trans hB hb1.size)).mono ?_
  rintro e w2 ⟨⟨v2, rfl, ho2, _⟩, hb2⟩
  obtain ⟨A3, c3, rfl, hc3, hr3⟩ := own_shape ho2
  have HR3 := Lib.hid hr3
  clear ho2 hr3
  go_wp2_with fail
  refine (hashBitsH_any _ _ _ _ _ _ bs takes _ hlen2 hn ((HR1.out.below hb2).more hb2.size) HR3.out HT.out).mono ?_
  have f2 : Below w.heap.size w w2 := below_then hb1 hb1.size hb2
  rintro e w3 ⟨⟨hs, v, rfl, ho⟩ | ⟨hs, t, a, rfl⟩, hb3⟩
  · have HS := Lib.hid hs
    have HO := Lib.hid (own_more ho f2.size)
    clear hs ho
    go_wp2
    go_quiet (fail)
    go_wp2
    go_ret2
    exact ⟨.inl ⟨HS.out, _, rfl, HO.out⟩, below_drewN (f2.trans (hb3.mono f2.size)) _⟩
  · have HS := Lib.hid hs
    clear hs
    go_wp2
    go_quiet (fail)
    go_wp2
    go_ret2
    exact ⟨.inr ⟨HS.out, rfl⟩, below_drewN (f2.trans (hb3.mono f2.size)) _⟩

structure Quiet (w : World) (v : Value) (r : Ending) (w' : World) : Prop where
  ret : r = .returned v
  drew : ∃ d, w' = w.drewN d
/-- slices.Equal of equal slices. -/
theorem equal_i64 (A1 A2 : Option Addr) (n c1 c2 B1 B2 : Nat) (xs : List Int) (w : World) (h1 : Reads w B1 1 A1 n (i64s xs)) (h2 : Reads w B2 1 A2 n (i64s xs)) (hn : n ≤ 140737488355328) :
    Calls Try.prog 16 #[.slice A1 n c1, .slice A2 n c2] w (Quiet w (.bool true)) := by
  have hx : xs.length = n := by have := h1.1; simp only [i64s_length, Nat.mul_one] at this; exact this
  have HX := Lib.hid hx
  have H1 := Lib.hid h1
  have H2 := Lib.hid h2
  clear hx h1 h2
  go_enter Try.func16, Try.ntmps16
  go_wp2
  go_loopw [13] (fun i wr => ∃ j : Nat, j ≤ n ∧ i = .int .i64 j ∧ Hid (∃ d, wr = w.drewN d)) (fun i _ => n - (intOf i).toNat)
  case atStart => exact ⟨0, Nat.zero_le _, rfl, 0, rfl⟩
  case round =>
    obtain ⟨j, hj, rfl, ⟨d, rfl⟩⟩ := hrel
    by_cases hlt : j < n
    · have hjx : j < xs.length := by have := HX.out; omega
      obtain ⟨a1, u1, rfl, _, hu1, q1⟩ := H1.out.at_ hlt
      obtain ⟨a2, u2, rfl, _, hu2, q2⟩ := H2.out.at_ hlt
      rw [i64s_at _ _ hjx] at hu1 hu2
      obtain rfl := Option.some.inj hu1
      obtain rfl := Option.some.inj hu2
      generalize xs[j] = z at q1 q2
      clear hu1 hu2
      have hlt' : (j : Int) < (n : Int) := by omega
      have hne : (z != z) = false := by simp
      go_wp2
      go_quiet (fail)
      go_wp2
      go_roundw
      case rel => exact ⟨j + 1, by omega, by go_num, _, rfl⟩
      case measure => simp [intOf]; omega
    · go_wp2
      go_ret
      exact ⟨rfl, _, rfl⟩
end Go.Proofs.Ytoebofppmkglfaa
