/- The size of the contents, and the contents, of any message of known fields: unixfs.DataSize, unixfs.UnwrapData, and the thin package's DataSize and Unwrapped. -/
import Derived.Test.YtijbnmmeecmbjaaDoorUmW
import Derived.Test.YtijbnmmeecmbjaaDoorFlG
import Derived.Test.YtijbnmmeecmbjaaDoorFlM
namespace Go.Proofs.YtijbnmmeecmbjaaDoor
open Go.RowKit

/-- What the plain law says of the outcome of reading: whole, with its type. -/
def whole (R : Option FSt) : Option FSt := R.bind fun st => if st.ty.isSome then some st else none
theorem whole_none {R : Option FSt} (h : R = none ∨ ∃ st, R = some st ∧ st.ty = none) : whole R = none := by
  rcases h with rfl | ⟨st, rfl, e⟩
  · rfl
  · simp [whole, e]
theorem whole_some {R : Option FSt} {st : FSt} (h : R = some st) (ht : st.ty ≠ none) : whole R = some st := by
  subst h
  cases e : st.ty with
  | none => exact absurd e ht
  | some t => simp [whole, e]
theorem ms_data {N f : Nat} {st st' : FSt} {xs : List UInt8} (h : ms f st xs = some st') (hl : st.data.length ≤ N) (hx : xs.length ≤ N) : st'.data.length ≤ N := by
  induction f generalizing st xs with
  | zero =>
    obtain rfl := Option.some.inj h
    exact hl
  | succ f ih =>
    by_cases hne : xs = []
    · subst hne
      rw [ms_nil] at h
      obtain rfl := Option.some.inj h
      exact hl
    · cases hp : pt xs with
      | none => simp [ms, hne, hp] at h
      | some t =>
        cases hu : up st t with
        | none => simp [ms, hne, hp, hu] at h
        | some s2 =>
          have h2 : ms f s2 (xs.drop t.size) = some st' := by simpa [ms, hne, hp, hu] using h
          refine ih h2 ?_ (by rw [List.length_drop]; omega)
          have hv := pt_val hp
          unfold up at hu
          split at hu
          · obtain rfl := Option.some.inj hu; exact hl
          · split at hu
            · obtain rfl := Option.some.inj hu; exact Nat.le_trans hv hx
            · split at hu
              · obtain rfl := Option.some.inj hu; exact hl
              · split at hu
                · split at hu
                  · obtain rfl := Option.some.inj hu; exact hl
                  · cases hk : pk t.val.length t.val with
                    | none => rw [hk] at hu; simp at hu
                    | some d => rw [hk] at hu; obtain rfl := Option.some.inj hu; exact hl
                · split at hu
                  · obtain rfl := Option.some.inj hu; exact hl
                  · split at hu
                    · obtain rfl := Option.some.inj hu; exact hl
                    · obtain rfl := Option.some.inj hu; exact hl
theorem whole_data {N : Nat} {l : List UInt8} {st : FSt} (h : whole (ms l.length FSt.zero l) = some st) (hl : l.length ≤ N) : st.data.length ≤ N := by
  cases e : ms l.length FSt.zero l with
  | none => rw [e] at h; cases h
  | some s =>
    rw [e] at h
    have hs : st = s := by
      simp only [whole, Option.bind_some] at h
      split at h
      · exact (Option.some.inj h).symm
      · cases h
    subst hs
    exact ms_data e (Nat.zero_le _) hl
theorem UmIs.bad {T : TypeId} {b : Nat} {R : Option FSt} {w w' : World} {e : Ending} (h : UmIs T b R w e w') (hw : whole R = none) : Below b w w' ∧ ∃ a, e = .returned (.iface 90 (.pointer (some a))) := by
  rcases h.2 with ⟨-, h2⟩ | ⟨st, hf, hv, vt, vd, vz, vb, vh, vf, h1, h2, -⟩
  · exact ⟨h.1, h2⟩
  · rw [whole_some h1 h2] at hw; cases hw
theorem UmIs.good {T : TypeId} {b : Nat} {R : Option FSt} {w w' : World} {e : Ending} {st : FSt} (h : UmIs T b R w e w') (hw : whole R = some st) : Below b w w' ∧ e = .returned .nilIface ∧ ∃ hf hv vt vd vz vb vh vf, DRep w' T b hf hv st vt vd vz vb vh vf := by
  rcases h.2 with ⟨h1, -⟩ | ⟨st', hf, hv, vt, vd, vz, vb, vh, vf, h1, h2, h3, h4⟩
  · rw [whole_none h1] at hw; cases hw
  · rw [whole_some h1 h2] at hw
    obtain rfl := Option.some.inj hw
    exact ⟨h.1, h3, hf, hv, vt, vd, vz, vb, vh, vf, h4⟩
/-- What DataSize hands back: the number and nil, or 0 and an error. -/
def DsIs (w : World) (o : Option Nat) (e : Ending) (w' : World) : Prop := Below w.heap.size w w' ∧ ((∃ x, o = some x ∧ e = .returned (.tuple #[.int .u64 (x : Int), .nilIface])) ∨ (o = none ∧ ∃ a, e = .returned (.tuple #[.int .u64 0, .iface 90 (.pointer (some a))])))
theorem SzIs.bad {w w' : World} {o : Option Nat} {e : Ending} (h : SzIs w o e w') (ho : o = none) : Below w.heap.size w w' ∧ ∃ a, e = .returned (.tuple #[.int .u64 0, .iface 90 (.pointer (some a))]) := by
  rcases h.2 with ⟨x, h1, -⟩ | ⟨-, h2⟩
  · rw [ho] at h1; cases h1
  · exact ⟨h.1, h2⟩
theorem SzIs.good {w w' : World} {o : Option Nat} {e : Ending} {x : Nat} (h : SzIs w o e w') (ho : o = some x) : Below w.heap.size w w' ∧ e = .returned (.tuple #[.int .u64 (x : Int), .nilIface]) := by
  rcases h.2 with ⟨y, h1, h2⟩ | ⟨h1, -⟩
  · rw [ho] at h1
    obtain rfl := Option.some.inj h1
    exact ⟨h.1, h2⟩
  · rw [ho] at h1; cases h1
def sizeOf_ (R : Option FSt) : Option Nat := (whole R).bind fun st => szOf (st.ty.getD 0) st.fsize st.data.length
theorem ErrsF.alloc {w : World} {a0 a1 a2 a3 : Addr} (h : ErrsF w a0 a1 a2 a3) (o : Obj) : ErrsF (w.alloc o) a0 a1 a2 a3 := h.below ((below_one w o).mono h.lt) (Nat.le_refl _)
def zeroMsg : Array Value := #[.pointer none, .slice none 0 0, .pointer none, .slice none 0 0, .pointer none, .pointer none, .slice none 0 0, .int .i32 0]
/-- The premises of a call that reads bytes of known fields. -/
structure Asked (w : World) (A : Option Addr) (n c B : Nat) (l : List UInt8) (a0 a1 a2 a3 : Addr) : Prop where
  rd : Reads w B 1 A n (u8s l)
  lt : B ≤ w.heap.size
  nc : n ≤ c
  cap : c ≤ 9223372036854775807
  few : n ≤ 1000000
  run : runOk 0 l = true
  kn : Kn l
  err : ErrsF w a0 a1 a2 a3
theorem Asked.um {w : World} {A : Option Addr} {n c B : Nat} {l : List UInt8} {a0 a1 a2 a3 : Addr} (h : Asked w A n c B l a0 a1 a2 a3) (T : TypeId) (hT : TyOk T) :
    Calls Tryd.prog 41 #[.pointer (some ⟨w.heap.size, 0, none⟩), .slice A n c] (w.alloc (.cells #[.pointer none, .slice none 0 0, .pointer none, .slice none 0 0, .pointer none, .pointer none, .slice none 0 0, .int .i32 0] T)) (UmIs T w.heap.size (ms l.length FSt.zero l) (w.alloc (.cells #[.pointer none, .slice none 0 0, .pointer none, .slice none 0 0, .pointer none, .pointer none, .slice none 0 0, .int .i32 0] T))) :=
  unmarshal_any T w.heap.size A n c l _ a0 a1 a2 a3 hT ((h.rd.more h.lt).alloc (Nat.le_refl _) _) h.nc h.cap h.few h.run h.kn (h.err.alloc _) h.err.lt (Blk.new w T _)
set_option maxRecDepth 100000 in
theorem dataSize_any {w : World} {A : Option Addr} {n c B : Nat} {l : List UInt8} {a0 a1 a2 a3 : Addr} (h : Asked w A n c B l a0 a1 a2 a3) :
    Calls Tryd.prog 29 #[.slice A n c] w (DsIs w (sizeOf_ (ms l.length FSt.zero l))) := by
  have HU := Lib.hid (h.um 72 (.inl rfl))
  have hln : l.length = n := by have := h.rd.1; rw [u8s_length] at this; omega
  have hdl : ∀ st, whole (ms l.length FSt.zero l) = some st → st.data.length ≤ 1000000 := fun st e => whole_data e (by have := h.few; omega)
  generalize ms l.length FSt.zero l = R at *
  cases hw : whole R with
  | none =>
    have hs : Hid (sizeOf_ R = none) := by show _ = _; simp [sizeOf_, hw]
    have HB : Hid (∀ e w', UmIs 72 w.heap.size R _ e w' → _) := fun e w' hu => UmIs.bad (w := w.alloc (.cells #[.pointer none, .slice none 0 0, .pointer none, .slice none 0 0, .pointer none, .pointer none, .slice none 0 0, .int .i32 0] 72)) (e := e) (w' := w') hu hw
    clear hw hdl h
    go_enter Tryd.func29, Tryd.ntmps29
    go_wp2_with (first | (go_at_call 41; refine HU.out.mono ?_; clear HU; rintro e w1 hu; obtain ⟨hb1, a9, rfl⟩ := HB.out e w1 hu; have HB1 := Lib.hid hb1; clear hu hb1) | fail)
    go_ret2
    exact ⟨(below_one w _).trans HB1.out, .inr ⟨hs.out, _, rfl⟩⟩
  | some st =>
    have hs : Hid (sizeOf_ R = szOf (st.ty.getD 0) st.fsize st.data.length) := by show _ = _; simp [sizeOf_, hw]
    have hd := Lib.hid (hdl st hw)
    have HB : Hid (∀ e w', UmIs 72 w.heap.size R _ e w' → _) := fun e w' hu => UmIs.good (w := w.alloc (.cells #[.pointer none, .slice none 0 0, .pointer none, .slice none 0 0, .pointer none, .pointer none, .slice none 0 0, .int .i32 0] 72)) (e := e) (w' := w') hu hw
    clear hw hdl h
    cases hz : szOf (st.ty.getD 0) st.fsize st.data.length with
    | none =>
      have hs2 : Hid (sizeOf_ R = none) := hs.out.trans hz
      have HZ : Hid (∀ w1 e w', SzIs w1 (szOf (st.ty.getD 0) st.fsize st.data.length) e w' → _) := fun w1 e w' hu => SzIs.bad (w := w1) (e := e) (w' := w') hu hz
      clear hz hs
      go_enter Tryd.func29, Tryd.ntmps29
      go_wp2_with (first | (go_at_call 41; refine HU.out.mono ?_; clear HU; rintro e w1 hu; obtain ⟨hb1, rfl, hf, hv, vt, vd, vz, vb, vh, vf, hrep⟩ := HB.out e w1 hu; have HB1 := Lib.hid hb1; have HREP := Lib.hid hrep; clear hu hb1 hrep) | (go_at_call 42; refine (size_any HREP.out hd.out).mono ?_; rintro e w2 hu; obtain ⟨hb2, a9, rfl⟩ := HZ.out w1 e w2 hu; have HB2 := Lib.hid hb2; clear hu hb2) | fail)
      go_ret2
      exact ⟨((below_one w _).trans HB1.out).trans (HB2.out.mono (Nat.le_trans (by simp) HB1.out.size)), .inr ⟨hs2.out, _, rfl⟩⟩
    | some x =>
      have hs2 : Hid (sizeOf_ R = some x) := hs.out.trans hz
      have HZ : Hid (∀ w1 e w', SzIs w1 (szOf (st.ty.getD 0) st.fsize st.data.length) e w' → _) := fun w1 e w' hu => SzIs.good (w := w1) (e := e) (w' := w') hu hz
      clear hz hs
      go_enter Tryd.func29, Tryd.ntmps29
      go_wp2_with (first | (go_at_call 41; refine HU.out.mono ?_; clear HU; rintro e w1 hu; obtain ⟨hb1, rfl, hf, hv, vt, vd, vz, vb, vh, vf, hrep⟩ := HB.out e w1 hu; have HB1 := Lib.hid hb1; have HREP := Lib.hid hrep; clear hu hb1 hrep) | (go_at_call 42; refine (size_any HREP.out hd.out).mono ?_; rintro e w2 hu; obtain ⟨hb2, rfl⟩ := HZ.out w1 e w2 hu; have HB2 := Lib.hid hb2; clear hu hb2) | fail)
      go_ret2
      exact ⟨((below_one w _).trans HB1.out).trans (HB2.out.mono (Nat.le_trans (by simp) HB1.out.size)), .inl ⟨x, hs2.out, rfl⟩⟩
/-- What UnwrapData hands back: the contents and nil, or nil and an error. -/
def UwIs (w : World) (o : Option (List UInt8)) (e : Ending) (w' : World) : Prop := Below w.heap.size w w' ∧ ((∃ d A c, o = some d ∧ e = .returned (.tuple #[.slice A d.length c, .nilIface]) ∧ d.length ≤ c ∧ Reads w' w'.heap.size 1 A d.length (u8s d)) ∨ (o = none ∧ ∃ a, e = .returned (.tuple #[.slice none 0 0, .iface 90 (.pointer (some a))])))
def dataOf (R : Option FSt) : Option (List UInt8) := (whole R).map fun st => st.data
set_option maxRecDepth 100000 in
theorem unwrapData_any {w : World} {A : Option Addr} {n c B : Nat} {l : List UInt8} {a0 a1 a2 a3 : Addr} (h : Asked w A n c B l a0 a1 a2 a3) :
    Calls Tryd.prog 31 #[.slice A n c] w (UwIs w (dataOf (ms l.length FSt.zero l))) := by
  have HU := Lib.hid (h.um 72 (.inl rfl))
  generalize ms l.length FSt.zero l = R at *
  cases hw : whole R with
  | none =>
    have hs : Hid (dataOf R = none) := by show _ = _; simp [dataOf, hw]
    have HB : Hid (∀ e w', UmIs 72 w.heap.size R _ e w' → _) := fun e w' hu => UmIs.bad (w := w.alloc (.cells #[.pointer none, .slice none 0 0, .pointer none, .slice none 0 0, .pointer none, .pointer none, .slice none 0 0, .int .i32 0] 72)) (e := e) (w' := w') hu hw
    clear hw h
    go_enter Tryd.func31, Tryd.ntmps31
    go_wp2_with (first | (go_at_call 41; refine HU.out.mono ?_; clear HU; rintro e w1 hu; obtain ⟨hb1, a9, rfl⟩ := HB.out e w1 hu; have HB1 := Lib.hid hb1; clear hu hb1) | fail)
    go_ret2
    exact ⟨(below_one w _).trans HB1.out, .inr ⟨hs.out, _, rfl⟩⟩
  | some st =>
    have hs : Hid (dataOf R = some st.data) := by show _ = _; simp [dataOf, hw]
    have HB : Hid (∀ e w', UmIs 72 w.heap.size R _ e w' → _) := fun e w' hu => UmIs.good (w := w.alloc (.cells #[.pointer none, .slice none 0 0, .pointer none, .slice none 0 0, .pointer none, .pointer none, .slice none 0 0, .int .i32 0] 72)) (e := e) (w' := w') hu hw
    clear hw h
    go_enter Tryd.func31, Tryd.ntmps31
    go_wp2_with (first | (go_at_call 41; refine HU.out.mono ?_; clear HU; rintro e w1 hu; obtain ⟨hb1, rfl, hf, hv, vt, vd, vz, vb, vh, vf, hrep⟩ := HB.out e w1 hu; have HB1 := Lib.hid hb1; have HREP := Lib.hid hrep; clear hu hb1 hrep) | (go_at_call 43; refine (getData_any HREP.out).mono ?_; rintro e w2 ⟨rfl, rfl⟩; obtain ⟨A9, c9, rfl, hc9, hr9⟩ := own_shape HREP.out.data; have HR9 := Lib.hid hr9; have HC9 := Lib.hid hc9; clear hr9 hc9) | fail)
    go_ret2
    exact ⟨(below_one w _).trans HB1.out, .inl ⟨st.data, A9, c9, hs.out, rfl, HC9.out, HR9.out⟩⟩
end Go.Proofs.YtijbnmmeecmbjaaDoor
