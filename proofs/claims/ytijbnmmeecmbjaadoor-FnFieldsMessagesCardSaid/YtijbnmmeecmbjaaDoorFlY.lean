/- The thin package's DataSize, Unwrapped, FileData and FolderData; the fixed example folderAwake. -/
import Derived.BigQuiet
import Derived.Test.YtijbnmmeecmbjaaDoorFlD
import Derived.Test.YtijbnmmeecmbjaaDoorFlX
namespace Go.Proofs.YtijbnmmeecmbjaaDoor
open Go.RowKit

theorem own_shape2 {w : World} {base size n : Nat} {e : TypeId} {v : Value} {xs : List Value} (h : w.ownsRow base e size v n xs) : ∃ A c, v = .slice A n c ∧ n ≤ c ∧ c ≤ 9223372036854775807 ∧ Reads w w.heap.size size A n xs := by
  obtain ⟨A, c, rfl, h1, h2⟩ := own_shape h
  refine ⟨A, c, rfl, h1, ?_, h2⟩
  rcases h.2 with ⟨h3, h4⟩ | ⟨g, cap, cur, h3, _, _, _, hm, _⟩
  · injection h3 with _ _ h5
    omega
  · injection h3 with _ _ h5
    unfold maxLen at hm
    omega
/-- Bytes of known fields, wherever they lie. -/
structure Ask0 (w : World) (A : Option Addr) (n B : Nat) (l : List UInt8) (a0 a1 a2 a3 : Addr) : Prop where
  rd : Reads w B 1 A n (u8s l)
  lt : B ≤ w.heap.size
  few : n ≤ 1000000
  run : runOk 0 l = true
  kn : Kn l
  err : ErrsF w a0 a1 a2 a3
theorem Ask0.len {w : World} {A : Option Addr} {n B : Nat} {l : List UInt8} {a0 a1 a2 a3 : Addr} (h : Ask0 w A n B l a0 a1 a2 a3) : l.length = n := by have := h.rd.1; rw [u8s_length] at this; omega
theorem Ask0.below {w w' : World} {A : Option Addr} {n B : Nat} {l : List UInt8} {a0 a1 a2 a3 : Addr} (h : Ask0 w A n B l a0 a1 a2 a3) (hb : Below w.heap.size w w') : Ask0 w' A n B l a0 a1 a2 a3 :=
  ⟨h.rd.below (hb.mono h.lt), Nat.le_trans h.lt hb.size, h.few, h.run, h.kn, h.err.below hb h.err.lt⟩
theorem Ask0.clone {w w' : World} {A A' : Option Addr} {n B c : Nat} {l : List UInt8} {a0 a1 a2 a3 : Addr} (h : Ask0 w A n B l a0 a1 a2 a3) (hb : Below w.heap.size w w') (hr : Reads w' w'.heap.size 1 A' n (u8s l)) (hc : n ≤ c) (hc2 : c ≤ 9223372036854775807) : Asked w' A' n c w'.heap.size l a0 a1 a2 a3 :=
  ⟨hr, Nat.le_refl _, hc, hc2, h.few, h.run, h.kn, h.err.below hb h.err.lt⟩
theorem DsIs.good {w w' : World} {e : Ending} {x : Nat} (h : DsIs w (some x) e w') : Below w.heap.size w w' ∧ e = .returned (.tuple #[.int .u64 (x : Int), .nilIface]) := by
  rcases h.2 with ⟨y, h1, h2⟩ | ⟨h1, -⟩
  · obtain rfl := Option.some.inj h1
    exact ⟨h.1, h2⟩
  · cases h1
theorem DsIs.bad {w w' : World} {e : Ending} (h : DsIs w none e w') : Below w.heap.size w w' ∧ ∃ a, e = .returned (.tuple #[.int .u64 0, .iface 90 (.pointer (some a))]) := by
  rcases h.2 with ⟨y, h1, -⟩ | ⟨-, h2⟩
  · cases h1
  · exact ⟨h.1, h2⟩
/-- A number, and whether there is one. -/
def NumIs (w : World) (o : Option Nat) (e : Ending) (w' : World) : Prop := e = .returned (.tuple #[.int .u64 ((o.getD 0 : Nat) : Int), .bool o.isSome]) ∧ Below w.heap.size w w'
set_option maxRecDepth 100000 in
set_option maxHeartbeats 1000000 in
theorem implSize_any {w : World} {A : Option Addr} {n c B : Nat} {l : List UInt8} {a0 a1 a2 a3 : Addr} (h : Ask0 w A n B l a0 a1 a2 a3) :
    Calls Tryd.prog 8 #[.slice A n c] w (NumIs w (sizeOf_ (ms l.length FSt.zero l))) := by
  have HC := Lib.hid (clone_u8 A n c B (u8s l) w h.rd (u8s_one l) (Nat.le_trans h.few (by decide)) h.lt)
  have HA := Lib.hid h
  have HD : Hid (∀ W A' c', Asked W A' n c' W.heap.size l a0 a1 a2 a3 → Calls Tryd.prog 29 #[.slice A' n c'] W (DsIs W (sizeOf_ (ms l.length FSt.zero l)))) := fun W A' c' hk => dataSize_any hk
  clear h
  generalize sizeOf_ (ms l.length FSt.zero l) = o at *
  cases o with
  | none =>
    go_enter Tryd.func8, Tryd.ntmps8
    go_wp2_with (first | (go_at_call 30; refine HC.out.mono ?_; clear HC; rintro e w1 ⟨⟨v1, rfl, ho1, -⟩, hb1⟩; obtain ⟨A1, c1, rfl, hc1, hc2, hr1⟩ := own_shape2 ho1; have HK := Lib.hid (HA.out.clone hb1 hr1 hc1 hc2); have HB1 := Lib.hid hb1; clear ho1 hb1 hr1 hc1 hc2) | (go_at_call 29; refine ((HD.out _ _ _ HK.out).mono (fun e w2 hd => DsIs.bad hd)).mono ?_; clear HD; rintro e w2 ⟨hb2, a9, rfl⟩; have HB2 := Lib.hid hb2; clear hb2) | fail)
    go_quiet (fail)
    go_wp2
    go_ret2
    exact ⟨rfl, below_drewN (below_then HB1.out HB1.out.size HB2.out) _⟩
  | some x =>
    go_enter Tryd.func8, Tryd.ntmps8
    go_wp2_with (first | (go_at_call 30; refine HC.out.mono ?_; clear HC; rintro e w1 ⟨⟨v1, rfl, ho1, -⟩, hb1⟩; obtain ⟨A1, c1, rfl, hc1, hc2, hr1⟩ := own_shape2 ho1; have HK := Lib.hid (HA.out.clone hb1 hr1 hc1 hc2); have HB1 := Lib.hid hb1; clear ho1 hb1 hr1 hc1 hc2) | (go_at_call 29; refine ((HD.out _ _ _ HK.out).mono (fun e w2 hd => DsIs.good hd)).mono ?_; clear HD; rintro e w2 ⟨hb2, rfl⟩; have HB2 := Lib.hid hb2; clear hb2) | fail)
    go_quiet (fail)
    go_wp2
    go_ret2
    exact ⟨rfl, below_drewN (below_then HB1.out HB1.out.size HB2.out) _⟩
end Go.Proofs.YtijbnmmeecmbjaaDoor
