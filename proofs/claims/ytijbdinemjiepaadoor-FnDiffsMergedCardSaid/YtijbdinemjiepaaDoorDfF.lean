/- laws.changes. -/
import Derived.Test.YtijbdinemjiepaaDoorDfE
namespace Go.Proofs.YtijbdinemjiepaaDoor
open Go.RowKit

theorem lit4 (w : World) (t : TypeId) (a b c d : Value) : Reads (w.alloc (.cells #[a, b, c, d] t)) (w.heap.size + 1) 4 (some ⟨w.heap.size, 0, none⟩) 1 [a, b, c, d] :=
  ⟨rfl, fun _ => (reads_lit w t [a, b, c, d]).2 (show 0 < 4 by omega)⟩
theorem own_lt {w : World} {base n : Nat} {e : TypeId} {v : Value} {xs : List Value} (h : w.ownsRow base e 4 v n xs) : ∀ k, v.ownBlock = some k → k < w.heap.size := fun k hk => (h.lt k hk).2
theorem DIn.move {W w3 : World} {g : Option Nat} {d : Dif} {v : List Value} (h : DIn W g d v) (hg : W.grownBy w3 g) (k : Nat) (hk : W.heap.size ≤ k) : DIn w3 (some k) d v := by
  obtain ⟨A1, c1, A2, c2, e, hc, ⟨r1, r2⟩, n1, n2⟩ := h
  have l1 := (identB_length d.bef).2
  have l2 := (identB_length d.aft).2
  exact ⟨A1, c1, A2, c2, e, hc, ⟨reads_grown r1 hg n1, reads_grown r2 hg n2⟩, fun ad ea e2 => by injection e2 with e2; have := reads_lt r1 (by omega) ad ea; omega, fun ad ea e2 => by injection e2 with e2; have := reads_lt r2 (by omega) ad ea; omega⟩
theorem DRow.move {W w3 : World} {g : Option Nat} (hg : W.grownBy w3 g) (k : Nat) (hk : W.heap.size ≤ k) : ∀ {ds : List Dif} {xs : List Value}, DRow W g ds xs → DRow w3 (some k) ds xs
  | [], _, h => h
  | _ :: _, _, ⟨v, ys, e, h1, h2⟩ => ⟨v, ys, e, h1.move hg k hk, DRow.move hg k hk h2⟩
theorem drow_app {W w3 : World} {g g' : Option Nat} {d : Dif} {v : List Value} {ds : List Dif} {xs : List Value} (hd : DRow W g ds xs) (hv : DIn W g d v) (hg : W.grownBy w3 g) (hat : g' = g ∨ g' = some W.heap.size) : DRow w3 g' (ds ++ [d]) (xs ++ v) := by
  rcases hat with rfl | rfl
  · exact (DRow.snoc hv hd).grown hg
  · exact DRow.snoc (hv.move hg _ (Nat.le_refl _)) (hd.move hg _ (Nat.le_refl _))
set_option maxRecDepth 100000 in
set_option maxHeartbeats 4000000 in
theorem changes_any (A : Option Addr) (n c B : Nat) (l : List Nat) (w : World) (hr : Reads w B 1 A n (u16s l)) (hl : ∀ x ∈ l, x < 65536) (hn : n ≤ 60) (hB : B ≤ w.heap.size) :
    Calls Tryd.prog 8 #[.slice A n c] w fun e w' => ∃ v xs, e = .returned v ∧ w'.ownsRow w.heap.size 32 4 v n xs ∧ DRow w' v.ownBlock (l.map chg) xs ∧ Below w.heap.size w w' := by
  obtain ⟨i0, hi, hz0, hz1, hz2⟩ := info_parts infoDiff
  have hln : l.length = n := by have := hr.1; rw [u16s_length] at this; omega
  have HR := Lib.hid hr
  have HL := Lib.hid hl
  have HLN := Lib.hid hln
  clear hr hl hln
  go_enter Tryd.func8, Tryd.ntmps8
  go_wp2
  go_loopw [3, 8] (fun sv si wr => ∃ (j : Nat) (xs : List Value), j ≤ n ∧ si = .int .i64 j ∧ Hid (wr.ownsRow w.heap.size 32 4 sv j xs) ∧ Hid (DRow wr sv.ownBlock ((l.take j).map chg) xs) ∧ Hid (Below w.heap.size w wr)) (fun _ si _ => n - (intOf si).toNat)
  case atStart => exact ⟨0, [], Nat.zero_le _, rfl, World.ownsRow_nil _ _ _ _, rfl, Below.refl _ _⟩
  case round =>
    obtain ⟨j, xs, hj, rfl, HO, HD, HW⟩ := hrel
    by_cases hlt : j < n
    · obtain ⟨b, o, rfl, hbB, hat⟩ := (HR.out.below (HW.out.mono hB)).lit hlt
      have hjl : j < l.length := by have := HLN.out; omega
      have k1 := hat j _ (u16s_at l j hjl)
      have hx6 := HL.out _ (List.getElem_mem hjl)
      have htk : l.take (j + 1) = l.take j ++ [l[j]] := List.take_succ_eq_append_getElem hjl
      generalize l[j] = x at *
      have HTK := Lib.hid htk
      have g1 : (j : Int) < (n : Int) := by omega
      have HC := Lib.hid (change_any x wr hx6)
      clear hat hjl htk
      go_wp2_with (first | (go_at_call 32; refine HC.out.mono ?_; clear HC; rintro e w1 ⟨v1, rfl, hd, hb⟩; have HDI := Lib.hid (hd.inn (g := u3.ownBlock) (own_lt HO.out)); obtain ⟨A1, c1, A2, c2, rfl, -⟩ := hd; have HO1 := Lib.hid (own_below HO.out hb); have HD1 := Lib.hid (HD.out.below hb); have HW1 := Lib.hid (bel_next hb HW.out); clear hb) | (at_builtin; refine wpList_append_any _ rfl (.tmp 12) (.tmp 15) 24 rfl w.heap.size 32 i0 _ 4 72 Tryd.underlying24 hi hz0 hz1 hz2 rfl (by decide) u3 j xs rfl (HO1.out.alloc _) (w1.heap.size + 1) (some ⟨w1.heap.size, 0, none⟩) 1 1 _ rfl (lit4 w1 _ _ _ _ _) (by intro u hu; simp at hu; rcases hu with rfl | rfl | rfl | rfl <;> rfl) (by unfold maxLen; omega) (by omega) (by have := HW1.out.size; simp; omega) ?_; rintro v3 w3 hown3 hg3 hat3 -; have HO3 := Lib.hid hown3; have HD3 := Lib.hid (drow_app (HD1.out.below (below_one w1 _)) (HDI.out.below (below_one w1 _)) hg3 hat3); have HW3 := Lib.hid ((below_alloc HW1.out _).grown hg3 (by have := HW1.out.size; simp; omega) (fun k hk => own_base HO.out k hk)); clear hown3 hg3 hat3) | fail)
      go_roundw
      case rel => exact ⟨j + 1, _, by omega, by go_num, HO3.out, by show DRow _ _ _ _; rw [HTK.out, List.map_append]; exact HD3.out, HW3.out⟩
      case measure => simp [intOf]; omega
    · have hjn : j = n := by omega
      have g1 : ¬ (j : Int) < (n : Int) := by omega
      have HF : Hid (DRow wr u3.ownBlock (l.map chg) xs) := by show DRow _ _ _ _; have h := HD.out; rw [List.take_of_length_le (by have := HLN.out; omega)] at h; exact h
      subst hjn
      go_wp2
      go_ret
      exact ⟨_, rfl, _, HO.out, HF.out, HW.out⟩
end Go.Proofs.YtijbdinemjiepaaDoor
