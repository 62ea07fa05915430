/- Contracts of errors.New and bytes.Clone; what a message Data in memory tells: its fields, the size of its contents. -/
import Derived.Test.YtijbnmmeecmbjaaDoorUmR
import Derived.Lib.LazyBuf
import Derived.Lib.ConvBytes
namespace Go.Proofs.YtijbnmmeecmbjaaDoor
open Go.RowKit

theorem errors_New (s : ByteArray) (w : World) : Calls Tryd.prog 54 #[.string s] w fun e w' =>
    e = .returned (.iface 90 (.pointer (some ⟨w.heap.size, 0, none⟩))) ∧ w' = w.alloc (.cells #[.string s] 92) := by
  go_enter Tryd.func54, Tryd.ntmps54
  go_wp2
  go_ret
  exact ⟨rfl, rfl⟩
theorem infoU8g : (Tryd.prog.info? 5).map (fun i => (i.zero, i.size, i.bytes)) = some (some (.int .u8 0), 1, 1) := by kernel_rfl
/-- bytes.Clone: nil of nil, else new bytes. -/
theorem clone_u8 (A : Option Addr) (n c B : Nat) (l : List Value) (w : World) (hr : Reads w B 1 A n l) (h1 : ∀ u ∈ l, u.oneCell' = true) (hn : n ≤ 140737488355328) (hB : B ≤ w.heap.size) :
    Calls Tryd.prog 30 #[.slice A n c] w (Made w 5 1 n l (A = none)) := by
  obtain ⟨i0, hi, hz0, hz1, hz2⟩ := info_parts infoU8g
  have ke := Lib.run_eql_slice_nil (P := Tryd.prog) w 22 5 A n c 0 0 Tryd.underlying22
  rcases A with _ | ad
  · obtain rfl : n = 0 := by
      rcases Nat.eq_zero_or_pos n with h0 | h0
      · exact h0
      · obtain ⟨ad, h, _⟩ := hr.2 h0
        cases h
    obtain rfl : l = [] := List.eq_nil_of_length_eq_zero (by simpa using hr.1)
    clear hr
    go_enter Tryd.func30, Tryd.ntmps30
    go_wp2
    go_ret
    exact ⟨⟨_, rfl, World.ownsRow_nil _ _ _ _, by simp⟩, Below.refl _ _⟩
  · have own0 := World.ownsRow_made (base := w.heap.size) (e := 5) (size := 1) w #[] 0 (Nat.le_refl _) (by unfold maxLen; omega) rfl
    go_enter Tryd.func30, Tryd.ntmps30
    have hr1 := hr.alloc hB (.cells #[] 5)
    have b1 : 0 + n ≤ maxLen := by unfold maxLen; omega
    have b2 : (0 + n) * 1 ≤ 140737488355328 := by omega
    have b3 : w.heap.size ≤ (w.alloc (.cells #[] 5)).heap.size := by simp
    go_wp2_with (at_builtin; refine wpList_append_any _ rfl (.tmp 5) (.tmp 6) 22 rfl w.heap.size 5 i0 (.int .u8 0) 1 1 Tryd.underlying22 hi hz0 hz1 hz2 rfl (by decide) _ 0 [] rfl own0 B (some ad) n c l rfl hr1 h1 b1 b2 b3 ?_; rintro v1 w1 hown hg _ hnn)
    go_ret
    exact ⟨⟨v1, rfl, by simpa using hown, ⟨fun h => (by have h2 : Value.slice (some ⟨w.heap.size, 0, none⟩) 0 0 = .slice none 0 0 := (hnn.1 h).1; cases h2), nofun⟩⟩, (below_one w _).grown hg b3 (own_base own0)⟩
section
variable {w : World} {T : TypeId} {b hf hv : Nat} {st : FSt} {vt vd vz vb vh vf : Value}
set_option maxRecDepth 100000
theorem getData_any (h : DRep w T b hf hv st vt vd vz vb vh vf) : Calls Tryd.prog 43 #[.pointer (some ⟨b, 0, none⟩)] w fun e w' => e = .returned vd ∧ w' = w := by
  obtain ⟨A, c, rfl, -, -⟩ := own_shape h.data
  have k1 := h.blk.cell 1
  clear h
  go_enter Tryd.func43, Tryd.ntmps43
  go_wp2
  go_ret
  exact ⟨rfl, rfl⟩
theorem getType_any (h : DRep w T b hf hv st vt vd vz vb vh vf) : Calls Tryd.prog 56 #[.pointer (some ⟨b, 0, none⟩)] w fun e w' => e = .returned (.int .i32 (st.ty.getD 0)) ∧ w' = w := by
  have k0 := h.blk.cell 0
  rcases h.ty with ⟨rfl, e⟩ | ⟨q, t, rfl, e, -, hq⟩
  · rw [e]
    clear h e
    go_enter Tryd.func56, Tryd.ntmps56
    go_wp2
    go_ret
    exact ⟨rfl, rfl⟩
  · rw [e]
    have kq := hq.cell 0
    clear h hq e
    go_enter Tryd.func56, Tryd.ntmps56
    go_wp2
    go_ret
    exact ⟨rfl, rfl⟩
theorem getFilesize_any (h : DRep w T b hf hv st vt vd vz vb vh vf) : Calls Tryd.prog 57 #[.pointer (some ⟨b, 0, none⟩)] w fun e w' => e = .returned (.int .u64 (st.fsize : Int)) ∧ w' = w := by
  have k0 := h.blk.cell 2
  rcases h.fsize with ⟨rfl, e⟩ | ⟨q, rfl, -, hq, -⟩
  · rw [e]
    clear h e
    go_enter Tryd.func57, Tryd.ntmps57
    go_wp2
    go_ret
    exact ⟨rfl, rfl⟩
  · have kq := hq.cell 0
    clear h hq
    generalize (st.fsize : Int) = x at *
    go_enter Tryd.func57, Tryd.ntmps57
    go_wp2
    go_ret
    exact ⟨rfl, rfl⟩
end
/-- The size of the contents that a type tells. -/
def szOf (t : Int) (fs len : Nat) : Option Nat := if t = 2 ∨ t = 0 then some fs else if t = 4 then some len else none
/-- What size hands back. -/
def SzIs (w : World) (o : Option Nat) (e : Ending) (w' : World) : Prop := Below w.heap.size w w' ∧ ((∃ x, o = some x ∧ e = .returned (.tuple #[.int .u64 (x : Int), .nilIface])) ∨ (o = none ∧ ∃ a, e = .returned (.tuple #[.int .u64 0, .iface 90 (.pointer (some a))])))
set_option maxRecDepth 100000 in
set_option maxHeartbeats 2000000 in
theorem size_any {w : World} {T : TypeId} {b hf hv : Nat} {st : FSt} {vt vd vz vb vh vf : Value} (h : DRep w T b hf hv st vt vd vz vb vh vf) (hl : st.data.length ≤ 1000000) :
    Calls Tryd.prog 42 #[.pointer (some ⟨b, 0, none⟩)] w (SzIs w (szOf (st.ty.getD 0) st.fsize st.data.length)) := by
  obtain ⟨A, c, hvd, hc, -⟩ := own_shape h.data
  have HG := Lib.hid (getType_any h)
  have HZ := Lib.hid (getFilesize_any h)
  have HD := Lib.hid (getData_any h)
  subst hvd
  clear h
  generalize st.ty.getD 0 = t at *
  generalize st.data.length = dl at *
  generalize st.fsize = fs at *
  have HN := Lib.hid (fun (s : ByteArray) (W : World) => errors_New s W)
  by_cases h2 : t = 2
  · subst h2
    go_enter Tryd.func42, Tryd.ntmps42
    go_wp2_with (first | (go_at_call 56; refine HG.out.mono ?_; clear HG; rintro e w1 ⟨rfl, rfl⟩) | (go_at_call 57; refine HZ.out.mono ?_; clear HZ; rintro e w1 ⟨rfl, rfl⟩) | fail)
    go_ret2
    exact ⟨Below.refl _ _, .inl ⟨fs, rfl, rfl⟩⟩
  · by_cases h0 : t = 0
    · subst h0
      go_enter Tryd.func42, Tryd.ntmps42
      go_wp2_with (first | (go_at_call 56; refine HG.out.mono ?_; clear HG; rintro e w1 ⟨rfl, rfl⟩) | (go_at_call 57; refine HZ.out.mono ?_; clear HZ; rintro e w1 ⟨rfl, rfl⟩) | fail)
      go_ret2
      exact ⟨Below.refl _ _, .inl ⟨fs, rfl, rfl⟩⟩
    · by_cases h4 : t = 4
      · subst h4
        go_enter Tryd.func42, Tryd.ntmps42
        go_wp2_with (first | (go_at_call 56; refine HG.out.mono ?_; clear HG; rintro e w1 ⟨rfl, rfl⟩) | (go_at_call 43; refine HD.out.mono ?_; clear HD; rintro e w1 ⟨rfl, rfl⟩) | fail)
        go_ret2
        exact ⟨Below.refl _ _, .inl ⟨dl, rfl, rfl⟩⟩
      · have hz : szOf t fs dl = none := by simp [szOf, h2, h0, h4]
        have HZN := Lib.hid hz
        clear hz
        by_cases h1 : t = 1
        · subst h1
          go_enter Tryd.func42, Tryd.ntmps42
          go_wp2_with (first | (go_at_call 56; refine HG.out.mono ?_; clear HG; rintro e w1 ⟨rfl, rfl⟩) | (go_at_call 54; refine (HN.out _ _).mono ?_; rintro e w1 ⟨rfl, rfl⟩) | fail)
          go_ret2
          exact ⟨below_one _ _, .inr ⟨HZN.out, _, rfl⟩⟩
        · by_cases h5' : t = 5
          · subst h5'
            go_enter Tryd.func42, Tryd.ntmps42
            go_wp2_with (first | (go_at_call 56; refine HG.out.mono ?_; clear HG; rintro e w1 ⟨rfl, rfl⟩) | (go_at_call 54; refine (HN.out _ _).mono ?_; rintro e w1 ⟨rfl, rfl⟩) | fail)
            go_ret2
            exact ⟨below_one _ _, .inr ⟨HZN.out, _, rfl⟩⟩
          · have b0 : (t == 0) = false := by simpa using h0
            have b1 : (t == 1) = false := by simpa using h1
            have b2 : (t == 2) = false := by simpa using h2
            have b4 : (t == 4) = false := by simpa using h4
            have b5 : (t == 5) = false := by simpa using h5'
            go_enter Tryd.func42, Tryd.ntmps42
            go_wp2_with (first | (go_at_call 56; refine HG.out.mono ?_; clear HG; rintro e w1 ⟨rfl, rfl⟩) | (go_at_call 54; refine (HN.out _ _).mono ?_; rintro e w1 ⟨rfl, rfl⟩) | fail)
            go_ret2
            exact ⟨below_one _ _, .inr ⟨HZN.out, _, rfl⟩⟩
end Go.Proofs.YtijbnmmeecmbjaaDoor
