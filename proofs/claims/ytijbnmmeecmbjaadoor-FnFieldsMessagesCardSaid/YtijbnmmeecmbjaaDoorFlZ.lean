/- The thin package's Unwrapped, FileData and FolderData; the fixed example folderAwake; spec.SizeOf. -/
import Derived.Deep.RegionHeld3
import Derived.Test.YtijbnmmeecmbjaaDoorFlY
namespace Go.Proofs.YtijbnmmeecmbjaaDoor
open Go.RowKit

/-- Bytes, and whether there are some. -/
def BysIs (w : World) (o : Option (List UInt8)) (e : Ending) (w' : World) : Prop := Below w.heap.size w w' ∧ ∃ A c, e = .returned (.tuple #[.slice A (o.getD []).length c, .bool o.isSome]) ∧ (o.getD []).length ≤ c ∧ Reads w' w'.heap.size 1 A (o.getD []).length (u8s (o.getD []))
theorem UwIs.good {w w' : World} {e : Ending} {d : List UInt8} (h : UwIs w (some d) e w') : Below w.heap.size w w' ∧ ∃ A c, e = .returned (.tuple #[.slice A d.length c, .nilIface]) ∧ d.length ≤ c ∧ Reads w' w'.heap.size 1 A d.length (u8s d) := by
  rcases h.2 with ⟨d', A, c, h1, h2, h3, h4⟩ | ⟨h1, -⟩
  · obtain rfl := Option.some.inj h1
    exact ⟨h.1, A, c, h2, h3, h4⟩
  · cases h1
theorem UwIs.bad {w w' : World} {e : Ending} (h : UwIs w none e w') : Below w.heap.size w w' ∧ ∃ a, e = .returned (.tuple #[.slice none 0 0, .iface 90 (.pointer (some a))]) := by
  rcases h.2 with ⟨d', A, c, h1, -⟩ | ⟨-, h2⟩
  · cases h1
  · exact ⟨h.1, h2⟩
set_option maxRecDepth 100000 in
set_option maxHeartbeats 2000000 in
theorem unwrapped_any {w : World} {A : Option Addr} {n c B : Nat} {l : List UInt8} {a0 a1 a2 a3 : Addr} (h : Ask0 w A n B l a0 a1 a2 a3) (hd : ∀ d, dataOf (ms l.length FSt.zero l) = some d → d.length ≤ 1000000) :
    Calls Tryd.prog 9 #[.slice A n c] w (BysIs w (dataOf (ms l.length FSt.zero l))) := by
  have HC := Lib.hid (clone_u8 A n c B (u8s l) w h.rd (u8s_one l) (Nat.le_trans h.few (by decide)) h.lt)
  have HA := Lib.hid h
  have HD : Hid (∀ W A' c', Asked W A' n c' W.heap.size l a0 a1 a2 a3 → Calls Tryd.prog 31 #[.slice A' n c'] W (UwIs W (dataOf (ms l.length FSt.zero l)))) := fun W A' c' hk => unwrapData_any hk
  clear h
  generalize dataOf (ms l.length FSt.zero l) = o at *
  have HCL := Lib.hid (fun (A : Option Addr) (n c B : Nat) (l : List Value) (w : World) hr h1 hn hB => clone_u8 A n c B l w hr h1 hn hB)
  cases o with
  | none =>
    go_enter Tryd.func9, Tryd.ntmps9
    go_wp2_with (first | (go_at_call 30; refine HC.out.mono ?_; clear HC; rintro e w1 ⟨⟨v1, rfl, ho1, -⟩, hb1⟩; obtain ⟨A1, c1, rfl, hc1, hc2, hr1⟩ := own_shape2 ho1; have HK := Lib.hid (HA.out.clone hb1 hr1 hc1 hc2); have HB1 := Lib.hid hb1; clear ho1 hb1 hr1 hc1 hc2) | (go_at_call 31; refine ((HD.out _ _ _ HK.out).mono (fun e w2 hd => UwIs.bad hd)).mono ?_; clear HD; rintro e w2 ⟨hb2, a9, rfl⟩; have HB2 := Lib.hid hb2; clear hb2) | fail)
    go_region_law (first | (go_simp; go_at_call 30; refine (HCL.out none 0 0 0 [] _ Reads.none_ (by simp) (by decide) (Nat.zero_le _)).mono ?_; rintro e w3 ⟨⟨v3, rfl, ho3, hv3⟩, hb3⟩; obtain rfl := hv3.2 rfl; have HB3 := Lib.hid hb3; clear ho3 hv3 hb3) | fail)
    all_goals
      go_wp2
      go_ret2
      exact ⟨below_then (below_drewN (below_then HB1.out HB1.out.size HB2.out) 1) (Nat.le_trans HB1.out.size HB2.out.size) HB3.out, none, 0, rfl, Nat.le_refl _, Reads.none_⟩
  | some d =>
    have hdl := hd d rfl
    go_enter Tryd.func9, Tryd.ntmps9
    go_wp2_with (first | (go_at_call 30; refine HC.out.mono ?_; clear HC; rintro e w1 ⟨⟨v1, rfl, ho1, -⟩, hb1⟩; obtain ⟨A1, c1, rfl, hc1, hc2, hr1⟩ := own_shape2 ho1; have HK := Lib.hid (HA.out.clone hb1 hr1 hc1 hc2); have HB1 := Lib.hid hb1; clear ho1 hb1 hr1 hc1 hc2) | (go_at_call 31; refine ((HD.out _ _ _ HK.out).mono (fun e w2 hd => UwIs.good hd)).mono ?_; clear HD; rintro e w2 ⟨hb2, A2, c2, rfl, hc2, hr2⟩; have HB2 := Lib.hid hb2; have HR2 := Lib.hid hr2; clear hb2 hr2) | fail)
    go_region_law (first | (go_simp; go_at_call 30; refine (HCL.out A2 d.length c2 w2.heap.size (u8s d) _ HR2.out.drew (u8s_one d) (Nat.le_trans hdl (by decide)) (Nat.le_refl _)).mono ?_; rintro e w3 ⟨⟨v3, rfl, ho3, -⟩, hb3⟩; obtain ⟨A3, c3, rfl, hc3, hr3⟩ := own_shape ho3; have HB3 := Lib.hid hb3; have HR3 := Lib.hid hr3; have HC3 := Lib.hid hc3; clear ho3 hb3 hr3 hc3) | fail)
    all_goals
      go_wp2
      go_ret2
      exact ⟨below_then (below_drewN (below_then HB1.out HB1.out.size HB2.out) 1) (Nat.le_trans HB1.out.size HB2.out.size) HB3.out, A3, c3, rfl, HC3.out, HR3.out⟩
end Go.Proofs.YtijbnmmeecmbjaaDoor
