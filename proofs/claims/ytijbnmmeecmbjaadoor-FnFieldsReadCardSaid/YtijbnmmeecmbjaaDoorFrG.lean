/- What an FSNode tells: its getters; slices.Clone of numbers. -/
import Derived.Test.YtijbnmmeecmbjaaDoorFlQ
namespace Go.Proofs.YtijbnmmeecmbjaaDoor
open Go.RowKit

section
variable {w w' : World} {T : TypeId} {b hf hv : Nat} {st : FSt} {vt vd vz vb vh vf : Value}
theorem PtN.below {v : Value} {x : Nat} (h : PtN w b vb v x) (hb : Below w.heap.size w w') : PtN w' b vb v x := by
  rcases h with h | ⟨q, h1, h2, h3, h4⟩
  · exact .inl h
  · exact .inr ⟨q, h1, h2, h3.below hb h3.lt, h4⟩
theorem DRep.below (h : DRep w T b hf hv st vt vd vz vb vh vf) (hb : Below w.heap.size w w') : DRep w' T b hf hv st vt vd vz vb vh vf := by
  refine ⟨h.blk.below hb h.blk.lt, h.has.below hb h.has.lt, h.bhf, ?_, own_below h.data hb, h.fsize.below hb, own_below h.sizes hb, h.hash.below hb, h.fan.below hb⟩
  rcases h.ty with h | ⟨q, t, h1, h2, h3, h4⟩
  · exact .inl h
  · exact .inr ⟨q, t, h1, h2, h3, h4.below hb h4.lt⟩
set_option maxRecDepth 100000
theorem getHashType_any (h : DRep w T b hf hv st vt vd vz vb vh vf) : Calls Tryd.prog 61 #[.pointer (some ⟨b, 0, none⟩)] w fun e w' => e = .returned (.int .u64 (st.hash : Int)) ∧ w' = w := by
  have k0 := h.blk.cell 4
  rcases h.hash with ⟨rfl, e⟩ | ⟨q, rfl, -, hq, -⟩
  · rw [e]
    clear h e
    go_enter Tryd.func61, Tryd.ntmps61
    go_wp2
    go_ret
    exact ⟨rfl, rfl⟩
  · have kq := hq.cell 0
    clear h hq
    generalize (st.hash : Int) = x at *
    go_enter Tryd.func61, Tryd.ntmps61
    go_wp2
    go_ret
    exact ⟨rfl, rfl⟩
theorem getFanout_any (h : DRep w T b hf hv st vt vd vz vb vh vf) : Calls Tryd.prog 62 #[.pointer (some ⟨b, 0, none⟩)] w fun e w' => e = .returned (.int .u64 (st.fan : Int)) ∧ w' = w := by
  have k0 := h.blk.cell 5
  rcases h.fan with ⟨rfl, e⟩ | ⟨q, rfl, -, hq, -⟩
  · rw [e]
    clear h e
    go_enter Tryd.func62, Tryd.ntmps62
    go_wp2
    go_ret
    exact ⟨rfl, rfl⟩
  · have kq := hq.cell 0
    clear h hq
    generalize (st.fan : Int) = x at *
    go_enter Tryd.func62, Tryd.ntmps62
    go_wp2
    go_ret
    exact ⟨rfl, rfl⟩
theorem getBlocksizes_any (h : DRep w T b hf hv st vt vd vz vb vh vf) : Calls Tryd.prog 60 #[.pointer (some ⟨b, 0, none⟩)] w fun e w' => e = .returned vb ∧ w' = w := by
  obtain ⟨A, c, rfl, -, -⟩ := own_shape h.sizes
  have k1 := h.blk.cell 3
  clear h
  go_enter Tryd.func60, Tryd.ntmps60
  go_wp2
  go_ret
  exact ⟨rfl, rfl⟩
theorem nodeType_any (h : DRep w T b hf hv st vt vd vz vb vh vf) : Calls Tryd.prog 47 #[.pointer (some ⟨b, 0, none⟩)] w fun e w' => e = .returned (.int .i32 (st.ty.getD 0)) ∧ w' = w := by
  have HG := Lib.hid (getType_any h)
  clear h
  go_enter Tryd.func47, Tryd.ntmps47
  go_wp2_with (first | (go_at_call 56; refine HG.out.mono ?_; clear HG; rintro e w1 ⟨rfl, rfl⟩) | fail)
  go_ret
  exact ⟨rfl, rfl⟩
theorem nodeHashType_any (h : DRep w T b hf hv st vt vd vz vb vh vf) : Calls Tryd.prog 52 #[.pointer (some ⟨b, 0, none⟩)] w fun e w' => e = .returned (.int .u64 (st.hash : Int)) ∧ w' = w := by
  have HG := Lib.hid (getHashType_any h)
  clear h
  go_enter Tryd.func52, Tryd.ntmps52
  go_wp2_with (first | (go_at_call 61; refine HG.out.mono ?_; clear HG; rintro e w1 ⟨rfl, rfl⟩) | fail)
  go_ret
  exact ⟨rfl, rfl⟩
theorem nodeFanout_any (h : DRep w T b hf hv st vt vd vz vb vh vf) : Calls Tryd.prog 53 #[.pointer (some ⟨b, 0, none⟩)] w fun e w' => e = .returned (.int .u64 (st.fan : Int)) ∧ w' = w := by
  have HG := Lib.hid (getFanout_any h)
  clear h
  go_enter Tryd.func53, Tryd.ntmps53
  go_wp2_with (first | (go_at_call 62; refine HG.out.mono ?_; clear HG; rintro e w1 ⟨rfl, rfl⟩) | fail)
  go_ret
  exact ⟨rfl, rfl⟩
theorem nodeData_any (h : DRep w T b hf hv st vt vd vz vb vh vf) : Calls Tryd.prog 48 #[.pointer (some ⟨b, 0, none⟩)] w fun e w' => e = .returned vd ∧ w' = w := by
  have HG := Lib.hid (getData_any h)
  obtain ⟨A, c, rfl, -, -⟩ := own_shape h.data
  clear h
  go_enter Tryd.func48, Tryd.ntmps48
  go_wp2_with (first | (go_at_call 43; refine HG.out.mono ?_; clear HG; rintro e w1 ⟨rfl, rfl⟩) | fail)
  go_ret
  exact ⟨rfl, rfl⟩
theorem nodeBlockSizes_any (h : DRep w T b hf hv st vt vd vz vb vh vf) : Calls Tryd.prog 51 #[.pointer (some ⟨b, 0, none⟩)] w fun e w' => e = .returned vb ∧ w' = w := by
  have HG := Lib.hid (getBlocksizes_any h)
  obtain ⟨A, c, rfl, -, -⟩ := own_shape h.sizes
  clear h
  go_enter Tryd.func51, Tryd.ntmps51
  go_wp2_with (first | (go_at_call 60; refine HG.out.mono ?_; clear HG; rintro e w1 ⟨rfl, rfl⟩) | fail)
  go_ret
  exact ⟨rfl, rfl⟩
theorem nodeFileSize_any (h : DRep w T b hf hv st vt vd vz vb vh vf) (hl : st.data.length ≤ 1000000) : Calls Tryd.prog 49 #[.pointer (some ⟨b, 0, none⟩)] w fun e w' => e = .returned (.int .u64 (((szOf (st.ty.getD 0) st.fsize st.data.length).getD 0 : Nat) : Int)) ∧ Below w.heap.size w w' := by
  have HG := Lib.hid (size_any h hl)
  clear h hl
  cases hz : szOf (st.ty.getD 0) st.fsize st.data.length with
  | none =>
    rw [hz] at HG
    clear hz
    go_enter Tryd.func49, Tryd.ntmps49
    go_wp2_with (first | (go_at_call 42; refine (HG.out.mono (fun e w2 hd => SzIs.bad hd rfl)).mono ?_; clear HG; rintro e w1 ⟨hb, a9, rfl⟩; have HB := Lib.hid hb; clear hb) | fail)
    go_ret
    exact ⟨rfl, HB.out⟩
  | some x =>
    rw [hz] at HG
    clear hz
    go_enter Tryd.func49, Tryd.ntmps49
    go_wp2_with (first | (go_at_call 42; refine (HG.out.mono (fun e w2 hd => SzIs.good hd rfl)).mono ?_; clear HG; rintro e w1 ⟨hb, rfl⟩; have HB := Lib.hid hb; clear hb) | fail)
    go_ret
    exact ⟨rfl, HB.out⟩
end
theorem infoU64g : (Tryd.prog.info? 25).map (fun i => (i.zero, i.size, i.bytes)) = some (some (.int .u64 0), 1, 8) := by kernel_rfl
/-- slices.Clone: nil of nil, else new cells. -/
theorem clone_u64 (A : Option Addr) (n c B : Nat) (l : List Value) (w : World) (hr : Reads w B 1 A n l) (h1 : ∀ u ∈ l, u.oneCell' = true) (hn : n ≤ 1000000) (hB : B ≤ w.heap.size) :
    Calls Tryd.prog 50 #[.slice A n c] w (Made w 25 1 n l (A = none)) := by
  obtain ⟨i0, hi, hz0, hz1, hz2⟩ := info_parts infoU64g
  have ke := Lib.run_eql_slice_nil (P := Tryd.prog) w 30 25 A n c 0 0 Tryd.underlying30
  rcases A with _ | ad
  · obtain rfl : n = 0 := by
      rcases Nat.eq_zero_or_pos n with h0 | h0
      · exact h0
      · obtain ⟨ad, h, _⟩ := hr.2 h0
        cases h
    obtain rfl : l = [] := List.eq_nil_of_length_eq_zero (by simpa using hr.1)
    clear hr
    go_enter Tryd.func50, Tryd.ntmps50
    go_wp2
    go_ret
    exact ⟨⟨_, rfl, World.ownsRow_nil _ _ _ _, by simp⟩, Below.refl _ _⟩
  · have own0 := World.ownsRow_made (base := w.heap.size) (e := 25) (size := 1) w #[] 0 (Nat.le_refl _) (by unfold maxLen; omega) rfl
    go_enter Tryd.func50, Tryd.ntmps50
    have hr1 := hr.alloc hB (.cells #[] 25)
    have b1 : 0 + n ≤ maxLen := by unfold maxLen; omega
    have b2 : (0 + n) * 8 ≤ 140737488355328 := by omega
    have b3 : w.heap.size ≤ (w.alloc (.cells #[] 25)).heap.size := by simp
    go_wp2_with (at_builtin; refine wpList_append_any _ rfl (.tmp 5) (.tmp 6) 30 rfl w.heap.size 25 i0 (.int .u64 0) 1 8 Tryd.underlying30 hi hz0 hz1 hz2 rfl (by decide) _ 0 [] rfl own0 B (some ad) n c l rfl hr1 h1 b1 b2 b3 ?_; rintro v1 w1 hown hg _ hnn)
    go_ret
    exact ⟨⟨v1, rfl, by simpa using hown, ⟨fun h => (by have h2 : Value.slice (some ⟨w.heap.size, 0, none⟩) 0 0 = .slice none 0 0 := (hnn.1 h).1; cases h2), nofun⟩⟩, (below_one w _).grown hg b3 (own_base own0)⟩
end Go.Proofs.YtijbnmmeecmbjaaDoor
