/- Contracts of Next, of HashBits and of the thin package's HashBits: the numbers that takes of 1 to 24 bits give where there are bits enough; false where there are not. -/
import Derived.Test.YtoebofppmkglfaaHash
namespace Go.Proofs.Ytoebofppmkglfaa
open Go.RowKit

structure NextOk (w : World) (g : Nat) (b : Value) (v p : Nat) (r : Ending) (w' : World) : Prop where
  ret : r = .returned (.tuple #[.int .i64 v, .nilIface])
  blk : Blk w' g 59 #[b, .int .i64 p]
  only : w.grownBy w' (some g)
structure NextNo (w : World) (r : Ending) (w' : World) : Prop where
  ret : ∃ t a, r = .returned (.tuple #[.int .i64 0, .iface t (.pointer (some a))])
  below : Below w.heap.size w w'

theorem nextE_ok (g : Nat) (A : Option Addr) (len cap : Nat) (bs : List UInt8) (hlen : bs.length = len) (hlen2 : len ≤ 100000) (i c : Nat) (w : World) (h1 : 1 ≤ i) (h2 : i ≤ 24) (h3 : c + i ≤ 8 * len) (hb : Blk w g 59 #[.slice A len cap, .int .i64 c]) (hr : Reads w g 1 A len (u8s bs)) :
    Calls Try.prog 26 #[.pointer (some ⟨g, 0, none⟩), .int .i64 i] w (NextOk w g (.slice A len cap) (num bs c i) (c + i)) := by
  have c0 : w.cell? ⟨g, 0, none⟩ = some (.slice A len cap) := by rw [hb.cell]; rfl
  have c1 : w.cell? ⟨g, 1, none⟩ = some (.int .i64 c) := by rw [hb.cell]; rfl
  have h4 : (c : Int) + (i : Int) ≤ (len : Int) * 8 := by omega
  have h5 : decide ((len : Int) * 8 < (c : Int) + (i : Int)) = false := by simpa using h4
  have HB := Lib.hid hb
  have HR := Lib.hid hr
  have HL := Lib.hid hlen
  clear hb hr hlen
  go_enter Try.func26, Try.ntmps26
  go_wp2
  go_quiet (fail)
  go_wp2_with (go_at_call 27; refine (next_any _ _ _ _ _ HL.out hlen2 _ _ _ h1 h2 h3 (HB.out.drewN _) (HR.out.drewN _)).mono ?_; rintro e w2 ⟨rfl, hb2, ho2⟩)
  go_ret2
  exact ⟨rfl, hb2, only_trans (only_drewN (World.grownBy.refl _ _) _) ho2⟩

theorem nextE_no (g : Nat) (A : Option Addr) (len cap : Nat) (hlen2 : len ≤ 100000) (i c : Nat) (w : World) (h2 : i ≤ 24) (h3 : ¬ c + i ≤ 8 * len) (hc : c ≤ 8 * len) (hb : Blk w g 59 #[.slice A len cap, .int .i64 c]) :
    Calls Try.prog 26 #[.pointer (some ⟨g, 0, none⟩), .int .i64 i] w (NextNo w) := by
  have c0 : w.cell? ⟨g, 0, none⟩ = some (.slice A len cap) := by rw [hb.cell]; rfl
  have c1 : w.cell? ⟨g, 1, none⟩ = some (.int .i64 c) := by rw [hb.cell]; rfl
  have h4 : (len : Int) * 8 < (c : Int) + (i : Int) := by omega
  have h5 : decide ((len : Int) * 8 < (c : Int) + (i : Int)) = true := by simpa using h4
  clear hb h3
  go_enter Try.func26, Try.ntmps26
  go_wp2
  go_quiet (fail)
  go_wp2_with (go_at_call 24; refine (errors_New _ _).mono ?_; rintro e w2 ⟨rfl, rfl⟩)
  go_ret2
  exact ⟨⟨_, _, rfl⟩, (below_drewN (Below.refl _ _) _).alloc (Nat.le_refl _) _⟩

structure HbOut (w : World) (bs : List UInt8) (len : Nat) (takes : List Nat) (r : Ending) (w' : World) : Prop where
  ex : (takes.sum ≤ 8 * len ∧ ∃ v, r = .returned (.tuple #[v, .nilIface]) ∧ w'.ownsRow w.heap.size 3 1 v takes.length (i64s (nums bs 0 takes))) ∨
    (8 * len < takes.sum ∧ ∃ t a, r = .returned (.tuple #[.slice none 0 0, .iface t (.pointer (some a))]))
  below : Below w.heap.size w w'
theorem sum_take_le (l : List Nat) (j : Nat) : (l.take j).sum ≤ l.sum := by
  have h : l.sum = (l.take j).sum + (l.drop j).sum := by rw [← List.sum_append, List.take_append_drop]
  omega
def ints (l : List Nat) : List Int := l.map Int.ofNat
theorem ints_length (l : List Nat) : (ints l).length = l.length := by simp [ints]

set_option maxHeartbeats 1000000 in
theorem hashBitsH_any (A A2 : Option Addr) (len cap n c2 : Nat) (bs : List UInt8) (takes : List Nat) (w : World) (hlen2 : len ≤ 100000) (hn : n ≤ 100000) (hr : Reads w w.heap.size 1 A len (u8s bs)) (hr2 : Reads w w.heap.size 1 A2 n (i64s (ints takes))) (ht : ∀ i ∈ takes, 1 ≤ i ∧ i ≤ 24) :
    Calls Try.prog 23 #[.slice A len cap, .slice A2 n c2] w (HbOut w bs len takes) := by
  obtain ⟨i0, hi, hz0, hz1, hz2⟩ := info_parts infoInt
  have hlen : bs.length = len := by have := hr.1; simp only [u8s_length, Nat.mul_one] at this; exact this
  have htn : takes.length = n := by have := hr2.1; simp only [i64s_length, ints_length, Nat.mul_one] at this; exact this
  have HL := Lib.hid hlen
  have HTN := Lib.hid htn
  have HR := Lib.hid hr
  have HR2 := Lib.hid hr2
  have HT := Lib.hid ht
  have HB0 := Lib.hid (Blk.new w 59 #[.slice A len cap, .int .i64 ((0 : Nat) : Int)])
  clear hlen htn hr hr2 ht
  go_enter Try.func23, Try.ntmps23
  go_wp2
  go_loopw [7, 17] (fun v i wr => ∃ j c : Nat, j ≤ n ∧ i = .int .i64 j ∧ Hid (c = (takes.take j).sum) ∧ c ≤ 8 * len ∧ wr.ownsRow w.heap.size 3 1 v j (i64s (nums bs 0 (takes.take j))) ∧ Blk wr w.heap.size 59 #[.slice A len cap, .int .i64 c] ∧ Below w.heap.size w wr) (fun _ i _ => n - (intOf i).toNat)
  case atStart => exact ⟨0, 0, Nat.zero_le _, rfl, rfl, Nat.zero_le _, World.ownsRow_nil _ _ _ _, HB0.out, below_one _ _⟩
  case round =>
    obtain ⟨j, c, hj, rfl, HC, hc, hown, hblk, hbw⟩ := hrel
    have HO := Lib.hid hown
    have HBK := Lib.hid hblk
    clear hown hblk
    have b4 := hbw.size
    by_cases hlt : j < n
    · have hjt : j < takes.length := by have := HTN.out; omega
      obtain ⟨ad, x, rfl, _, hx, hcell⟩ := (HR2.out.below hbw).at_ hlt
      rw [i64s_at _ _ (by rw [ints_length]; omega)] at hx
      obtain rfl := Option.some.inj hx
      have hts := take_snoc takes j hjt
      obtain ⟨t1, t2⟩ := HT.out _ (List.getElem_mem hjt)
      have hge : (ints takes)[j]'(by rw [ints_length]; omega) = (takes[j] : Int) := by simp [ints]
      rw [hge] at hcell
      generalize takes[j] = i at hcell hts t1 t2
      have hsum : (takes.take (j + 1)).sum = c + i := by rw [hts, List.sum_append, HC.out]; simp
      have hnum : nums bs 0 (takes.take (j + 1)) = nums bs 0 (takes.take j) ++ [(num bs c i : Int)] := by
        rw [hts, nums_append, ← HC.out]; simp [nums]
      have hle := sum_take_le takes (j + 1)
      rw [hsum] at hle
      have HSUM := Lib.hid hsum
      have HNUM := Lib.hid hnum
      clear hx hts hge hsum hnum
      have b1 : j + 1 ≤ maxLen := by unfold maxLen; omega
      have b2 : (j + 1) * 8 ≤ 140737488355328 := by omega
      by_cases hfit : c + i ≤ 8 * len
      · go_wp2_with fail
        refine (nextE_ok _ _ _ _ _ HL.out hlen2 _ _ _ t1 t2 hfit HBK.out (HR.out.below hbw)).mono ?_
        rintro e w2 ⟨rfl, hb2, ho2⟩
        generalize num bs c i = V at HNUM
        have HB2 := Lib.hid hb2
        have HO2 := Lib.hid (HO.out.kept ho2 (.inr (own_blk_ne HO.out HBK.out (by decide))))
        have hbw2 := hbw.grown ho2 hbw.size (by intro k hk; cases hk; exact Nat.le_refl _)
        have b5 := hbw2.size
        clear hb2
        go_wp2_with (at_builtin; refine wpList_append_one rfl (.tmp 30) (.tmp 32) 29 rfl w.heap.size i0 (.int .i64 0) 8 Try.underlying29 hi hz0 hz1 hz2 rfl _ j _ rfl HO2.out rfl rfl b1 b2 b5 ?_; rintro v3 w3 hown3 hg3 hat3 _; have HO3 := Lib.hid hown3; clear hown3 hat3)
        go_roundw
        case rel => exact ⟨j + 1, c + i, by omega, by go_num, HSUM.out.symm, hfit, by rw [HNUM.out, i64s_append]; exact HO3.out, HB2.out.grown hg3 (fun e => own_blk_ne HO2.out HB2.out (by decide) e.symm), hbw2.grown hg3 hbw2.size (own_base HO2.out)⟩
        case measure => simp [intOf]; omega
      · go_wp2_with fail
        refine (nextE_no _ _ _ _ hlen2 _ _ _ t2 hfit hc HBK.out).mono ?_
        rintro e w2 ⟨⟨t, a, rfl⟩, hb2⟩
        go_wp2
        go_ret2
        exact ⟨.inr ⟨by omega, _, _, rfl⟩, hbw.trans (hb2.mono hbw.size)⟩
    · obtain rfl : n = j := by omega
      have hall : takes.take n = takes := List.take_of_length_le (by have := HTN.out; omega)
      have HALL := Lib.hid hall
      clear hall
      go_wp2
      go_ret2
      have h1 := HC.out
      have h2 := HO.out
      rw [HALL.out] at h1 h2
      exact ⟨.inl ⟨by omega, _, rfl, by rw [HTN.out]; exact h2⟩, hbw⟩
end Go.Proofs.Ytoebofppmkglfaa
