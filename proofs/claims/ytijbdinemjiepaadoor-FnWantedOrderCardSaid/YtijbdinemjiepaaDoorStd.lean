/- Contracts of errors.New, bytes.Clone and bytes.Equal: for every world and every argument that reads as bytes. -/
import Derived.Test.YtijbdinemjiepaaDoorRows
import Derived.Test.YtijbdinemjiepaaDoorMem
import Derived.Lib.LazyBuf
import Derived.Lib.ConvBytes
namespace Go.Proofs.YtijbdinemjiepaaDoor
open Go.RowKit

theorem errors_New (s : ByteArray) (w : World) : Calls Tryd.prog 58 #[.string s] w fun e w' =>
    e = .returned (.iface 153 (.pointer (some ⟨w.heap.size, 0, none⟩))) ∧ w' = w.alloc (.cells #[.string s] 155) := by
  go_enter Tryd.func58, Tryd.ntmps58
  go_wp2
  go_ret
  exact ⟨rfl, rfl⟩

theorem infoU8 : (Tryd.prog.info? 5).map (fun i => (i.zero, i.size, i.bytes)) = some (some (.int .u8 0), 1, 1) := by kernel_rfl

/-- bytes.Clone: nil of nil, else new bytes. -/
theorem clone_u8 (A : Option Addr) (n c B : Nat) (l : List Value) (w : World) (hr : Reads w B 1 A n l) (h1 : ∀ u ∈ l, u.oneCell' = true) (hn : n ≤ 140737488355328) (hB : B ≤ w.heap.size) :
    Calls Tryd.prog 30 #[.slice A n c] w (Made w 5 1 n l (A = none)) := by
  obtain ⟨i0, hi, hz0, hz1, hz2⟩ := info_parts infoU8
  have ke := Lib.run_eql_slice_nil (P := Tryd.prog) w 30 5 A n c 0 0 Tryd.underlying30
  rcases A with _ | ad
  · obtain rfl : n = 0 := by
      rcases Nat.eq_zero_or_pos n with h0 | h0
      · exact h0
      · obtain ⟨ad, h, _⟩ := hr.2 h0
        cases h
    obtain rfl : l = [] := List.eq_nil_of_length_eq_zero (by simpa using hr.1)
    clear hr
    go_enter Tryd.func30, Tryd.ntmps30
    go_wp2
    go_ret
    exact ⟨⟨_, rfl, World.ownsRow_nil _ _ _ _, by simp⟩, Below.refl _ _⟩
  · have own0 := World.ownsRow_made (base := w.heap.size) (e := 5) (size := 1) w #[] 0 (Nat.le_refl _) (by unfold maxLen; omega) rfl
    go_enter Tryd.func30, Tryd.ntmps30
    have hr1 := hr.alloc hB (.cells #[] 5)
    have b1 : 0 + n ≤ maxLen := by unfold maxLen; omega
    have b2 : (0 + n) * 1 ≤ 140737488355328 := by omega
    have b3 : w.heap.size ≤ (w.alloc (.cells #[] 5)).heap.size := by simp
    go_wp2_with (at_builtin; refine wpList_append_any _ rfl (.tmp 5) (.tmp 6) 30 rfl w.heap.size 5 i0 (.int .u8 0) 1 1 Tryd.underlying30 hi hz0 hz1 hz2 rfl (by decide) _ 0 [] rfl own0 B (some ad) n c l rfl hr1 h1 b1 b2 b3 ?_; rintro v1 w1 hown hg _ hnn)
    go_ret
    exact ⟨⟨v1, rfl, by simpa using hown, ⟨fun h => (by have h2 : Value.slice (some ⟨w.heap.size, 0, none⟩) 0 0 = .slice none 0 0 := (hnn.1 h).1; cases h2), nofun⟩⟩, (below_one w _).grown hg b3 (own_base own0)⟩

/-- bytes.Equal: the same bytes; nil is as empty. -/
def sameB (a b : List UInt8) : Bool := a == b
theorem sameB_self (a : List UInt8) : sameB a a = true := by simp [sameB]
theorem sameB_eq {a b : List UInt8} : sameB a b = true ↔ a = b := by simp [sameB]
theorem equal_u8 (A1 A2 : Option Addr) (n1 c1 n2 c2 B1 B2 : Nat) (l1 l2 : List UInt8) (w : World) (h1 : Reads w B1 1 A1 n1 (u8s l1)) (h2 : Reads w B2 1 A2 n2 (u8s l2)) :
    Calls Tryd.prog 36 #[.slice A1 n1 c1, .slice A2 n2 c2] w fun e w' => e = .returned (.bool (sameB l1 l2)) ∧ w = w' := by
  have k1 := run_convert_reads (P := Tryd.prog) w 30 5 Tryd.underlying30 Tryd.underlying5 B1 A1 n1 c1 l1 h1 9 Tryd.underlying9
  have k2 := run_convert_reads (P := Tryd.prog) w 30 5 Tryd.underlying30 Tryd.underlying5 B2 A2 n2 c2 l2 h2 9 Tryd.underlying9
  clear h1 h2
  go_enter Tryd.func36, Tryd.ntmps36
  go_wp2
  go_ret
  exact ⟨rfl, rfl⟩
end Go.Proofs.YtijbdinemjiepaaDoor
