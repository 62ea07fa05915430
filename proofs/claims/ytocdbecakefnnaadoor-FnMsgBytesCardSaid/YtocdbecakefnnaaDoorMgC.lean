/- A cid is laid into a buffer, and the laws for a piece within a buffer. -/
import Derived.Deep.Cut
import Derived.Deep.RegionHeld3
import Derived.Test.YtocdbecakefnnaaDoorMgP
namespace Go.Proofs.YtocdbecakefnnaaDoor
open Go.RowKit

theorem PutSt.later {w wx w' : World} {g n i : Nat} {L S : List UInt8} (h : PutSt w g n L S i wx) (hb : Below wx.heap.size wx w') : PutSt w g n L S i w' :=
  ⟨h.fit, h.len, h.blk.below hb h.blk.lt, h.only.trans (hb.mono (Nat.le_of_lt h.blk.lt))⟩
/-- A piece that was laid ahead of what stands. -/
theorem PutSt.sub {w wx w' : World} {g n i : Nat} {L S T : List UInt8} (h : PutSt w g n L S i wx) (hT : T.length ≤ i) (h2 : PutSt wx g i (put L i S) T (i - T.length) w') : PutSt w g n L (T ++ S) (i - T.length) w' := by
  have h1 := h.fit
  have h3 := h.len
  refine ⟨h.fit, by rw [List.length_append]; omega, ?_, h.only.trans h2.only⟩
  have hb := h2.blk
  rw [put_front L _ i _ _ (by omega) (by omega)] at hb
  exact hb
set_option maxRecDepth 100000 in
theorem cidPut_any (l : List UInt8) (p o g i n dl dc : Nat) (L S : List UInt8) (w0 w : World) (hp : p < g) (k0 : w.cell? ⟨p, o, none⟩ = some (.string ⟨l.toArray⟩)) (hst : PutSt w0 g n L S (i + l.length) w) (hdl : l.length ≤ dl) (hdc : dl ≤ dc) :
    Calls Tryd.prog 67 #[.pointer (some ⟨p, o, none⟩), .slice (some ⟨g, i, none⟩) dl dc] w fun e w' => e = .returned (.tuple #[.int .i64 (l.length : Nat), .nilIface]) ∧ Hid (PutSt w0 g n L (l ++ S) i w') := by
  obtain ⟨s, hs⟩ : ∃ s : ByteArray, s = ⟨l.toArray⟩ := ⟨_, rfl⟩
  have hz : s.size = l.length := by rw [hs]; exact List.size_toArray
  have hd : s.data.toList = l := by rw [hs]
  have HCS : Hid (∀ W : World, W.cell? ⟨p, o, none⟩ = some (.string s) → Calls Tryd.prog 62 #[.pointer (some ⟨p, o, none⟩)] W fun e w' => e = .returned (.int .i64 (s.size : Nat)) ∧ Below W.heap.size W w') := Lib.hid (fun W h => by rw [hz]; exact cidSize_any l p o W (by rw [← hs]; exact h))
  rw [← hs] at k0
  rw [← hz] at hst hdl
  rw [← hd, show s.data.toList.length = s.size by simp]
  clear hs hz hd
  have HST := Lib.hid hst
  have hpb : p < w.heap.size := Nat.lt_trans hp hst.blk.lt
  have hsc : s.size ≤ dc := Nat.le_trans hdl hdc
  clear hst
  go_enter Tryd.func67, Tryd.ntmps67
  go_wp2_with fail
  go_region_law (first
    | (refine step_put_string rfl (.tmp 9) (.tmp 14) rfl g n i i s.size dc L S s HST.out rfl rfl (.inl rfl) (Nat.le_refl _) ?_; intro w3 hst3; have HST3 := Lib.hid hst3; clear hst3)
    | (go_simp; go_at_call 62; go_must (first | refine (HCS.out _ k0).mono ?_ | refine (HCS.out w.drew k0).mono ?_); clear HCS; rintro e w2 ⟨rfl, hb⟩; have hq := HST.out.blk.lt; have k1 : w2.cell? ⟨p, o, none⟩ = some (.string s) := (hb.cell (p := ⟨p, o, none⟩) (Nat.lt_trans hp hq)).trans k0; have hx : PutSt w0 g n L S (i + s.size) w2 := (by first | exact HST.out.later hb | exact HST.out.drew.later hb); clear k0 HST hb hq; have k0 := k1; have HST := Lib.hid hx; clear k1 hx)
    | (go_simp; go_at_call 69; go_must (refine (keyString_any _ _).mono ?_); rintro e w2 ⟨rfl, hb⟩; have hq := HST.out.blk.lt; have k1 : w2.cell? ⟨p, o, none⟩ = some (.string s) := (hb.cell (p := ⟨p, o, none⟩) (Nat.lt_trans hp hq)).trans k0; have hx : PutSt w0 g n L S (i + s.size) w2 := (by first | exact HST.out.later hb | exact HST.out.drew.later hb); clear k0 HST hb hq; have k0 := k1; have HST := Lib.hid hx; clear k1 hx)
    | fail)
  all_goals (go_wp2; go_ret2; exact ⟨rfl, HST3⟩)
end Go.Proofs.YtocdbecakefnnaaDoor
