/- The thin package's FSOf: bytes of known fields, read as data. -/
import Derived.Test.YtijbnmmeecmbjaaDoorFrP
namespace Go.Proofs.YtijbnmmeecmbjaaDoor
open Go.RowKit

/-- What FSNodeFromBytes hands back. -/
def NdIs (w : World) (o : Option FSt) (e : Ending) (w' : World) : Prop := Below w.heap.size w w' ∧ match o with
  | none => ∃ a, e = .returned (.tuple #[.pointer none, .iface 90 (.pointer (some a))])
  | some st => ∃ b hf hv vt vd vz vb vh vf, e = .returned (.tuple #[.pointer (some ⟨b, 0, none⟩), .nilIface]) ∧ DRep w' 80 b hf hv st vt vd vz vb vh vf
set_option maxRecDepth 100000 in
theorem nodeFrom_any {w : World} {A : Option Addr} {n c B : Nat} {l : List UInt8} {a0 a1 a2 a3 : Addr} (h : Asked w A n c B l a0 a1 a2 a3) :
    Calls Tryd.prog 39 #[.slice A n c] w (NdIs w (whole (ms l.length FSt.zero l))) := by
  have HU := Lib.hid (h.um 80 (.inr rfl))
  generalize ms l.length FSt.zero l = R at *
  cases hw : whole R with
  | none =>
    have HB := Lib.hid (HU.out.mono fun e w' hu => hu.bad hw)
    clear hw h HU
    go_enter Tryd.func39, Tryd.ntmps39
    go_wp2_with (first | (go_at_call 41; refine HB.out.mono ?_; clear HB; rintro e w1 ⟨hb1, a9, rfl⟩; have HB1 := Lib.hid hb1; clear hb1) | fail)
    go_ret2
    exact ⟨(below_one w _).trans HB1.out, _, rfl⟩
  | some st =>
    have HB := Lib.hid (HU.out.mono fun e w' hu => hu.good hw)
    clear hw h HU
    go_enter Tryd.func39, Tryd.ntmps39
    go_wp2_with (first | (go_at_call 41; refine HB.out.mono ?_; clear HB; rintro e w1 ⟨hb1, rfl, hf, hv, vt, vd, vz, vb, vh, vf, hrep⟩; have HB1 := Lib.hid hb1; have HREP := Lib.hid hrep; clear hb1 hrep) | fail)
    go_ret2
    exact ⟨(below_one w _).trans HB1.out, _, _, _, _, _, _, _, _, _, rfl, HREP.out⟩
end Go.Proofs.YtijbnmmeecmbjaaDoor
