/- The methods of a want list that look an identifier up. (Written by wokgen.py.) -/
import Derived.Test.YtijbdinemjiepaaDoorWoL
namespace Go.Proofs.YtijbdinemjiepaaDoor
open Go.RowKit

section
variable {W : World} {s m n c b : Nat} {f : WMap} {x : List UInt8}
theorem lk_hit (h : WS W s m n f c) (hk : Blk W b 72 #[.string ⟨x.toArray⟩]) {e : Enr} (hx : foundW f x = some e) (hl : x.length ≤ 1000) :
    W.cell? ⟨s, 0, none⟩ = some (.map (some m)) ∧ W.cell? ⟨b, 0, none⟩ = some (.string ⟨x.toArray⟩) ∧ (Instr.lookup 136 (.map (some m)) (.agg #[.string ⟨x.toArray⟩]) true).run Tryd.prog W = .ok (.tuple #[.agg #[.string ⟨e.cid.toArray⟩, .int .i32 e.prio, .int .i32 (wty e.hv)], .bool true]) W := ⟨h.sb.cell 0, hk.cell 0, h.mp.hit hx hl⟩
theorem lk_miss (h : WS W s m n f c) (hk : Blk W b 72 #[.string ⟨x.toArray⟩]) (hx : foundW f x = none) (hl : x.length ≤ 1000) :
    W.cell? ⟨s, 0, none⟩ = some (.map (some m)) ∧ W.cell? ⟨b, 0, none⟩ = some (.string ⟨x.toArray⟩) ∧ (Instr.lookup 136 (.map (some m)) (.agg #[.string ⟨x.toArray⟩]) true).run Tryd.prog W = .ok (.tuple #[.agg #[.string ⟨#[]⟩, .int .i32 0, .int .i32 0], .bool false]) W := ⟨h.sb.cell 0, hk.cell 0, h.mp.miss hx hl⟩
theorem WS.mono {k : Nat} (h : WS W s m n f c) (hk : n ≤ k) : WS W s m k f c := ⟨h.sb, h.mp.mono hk⟩
theorem found_none (h : foundW f x = none) : f x = none := by unfold foundW at h; simpa using h
theorem found_eq {e : Enr} (h : foundW f x = some e) : f x = some (e.prio, e.hv) ∧ e.cid = x := by
  unfold foundW at h
  obtain ⟨y, hy, rfl⟩ := Option.map_eq_some_iff.1 h
  exact ⟨hy, rfl⟩
theorem after_no {W' : World} {q : Wnt} (h : WS W s m n f c) (hb : Below W.heap.size W W') (ho : okW f q = false) (h1 : stepW f q = f) (h2 : cntW f c q = c) : After W s m (n + 1) (stepW f q) (cntW f c q) (.bool (okW f q)) (.returned (.bool false)) W' :=
  ⟨by rw [ho], by rw [h1, h2]; exact (h.below hb).mono (Nat.le_succ n), Turn.of_below hb _⟩
end
set_option maxRecDepth 100000 in
set_option maxHeartbeats 8000000 in
theorem remove_any (s m n c : Nat) (f : WMap) (q : Wnt) (W : World) (h : WS W s m n f c) (hl : q.ent.cid.length ≤ 1000) (hq : q.kind = 1) :
    Calls Tryd.prog 48 #[.pointer (some ⟨s, 0, none⟩), .agg #[.string ⟨q.ent.cid.toArray⟩]] W (After W s m (n + 1) (stepW f q) (cntW f c q) (.bool (okW f q))) := by
  obtain ⟨kind, cid, prio, hv⟩ := q
  simp only at hl hq ⊢
  subst hq
  have hs := h.sb.lt
  have hm := h.mp.lt
  have hne := h.ne
  have HB : Hid (Below W.heap.size W (W.alloc (.cells #[.string ⟨cid.toArray⟩] 72)).drew) := Lib.hid (below_drewN (below_one W _) 1)
  have HB2 : Hid (∀ o, Below W.heap.size W ((W.alloc (.cells #[.string ⟨cid.toArray⟩] 72)).alloc o).drew) := Lib.hid (fun o => below_drewN (below_alloc (below_one W _) o) 1)
  have HWS := Lib.hid (h.below (below_one W (.cells #[.string ⟨cid.toArray⟩] 72))).drew
  have HK := Lib.hid (Blk.new W 72 #[.string ⟨cid.toArray⟩]).drew
  cases hx : foundW f cid with
  | none =>
    have HX := Lib.hid hx
    have hf := found_none hx
    have HN := Lib.hid (after_no (W' := ((W.alloc (.cells #[.string ⟨cid.toArray⟩] 72)).drew.alloc (.cells #[.string ⟨#[]⟩, .int .i32 0, .int .i32 0] 112))) (q := ⟨1, cid, prio, hv⟩) h (below_alloc HB.out _) (by simp [okW, hf]) (by simp [stepW, okW, hf]) (by simp [cntW, okW, hf]))
    clear h hx hf
    go_enter Tryd.func48, Tryd.ntmps48
    go_wp2_with fail
    go_region_held3 (fun w' => w'.cell? ⟨s, 0, none⟩ = some (.map (some m)) ∧ w'.cell? ⟨W.heap.size, 0, none⟩ = some (.string ⟨cid.toArray⟩) ∧ (Instr.lookup 136 (.map (some m)) (.agg #[.string ⟨cid.toArray⟩]) true).run Tryd.prog w' = .ok (.tuple #[.agg #[.string ⟨#[]⟩, .int .i32 0, .int .i32 0], .bool false]) w') (first | exact lk_miss HWS.out HK.out HX.out hl | exact lk_miss (HWS.out.below (below_one _ _)) (bkeep (below_one _ _) HK.out) HX.out hl) (fail)
    all_goals (go_wp2; go_ret; exact HN.out)
  | some e =>
    have HX := Lib.hid hx
    obtain ⟨hf, he⟩ := found_eq hx
    obtain ⟨ecid, eprio, ehv⟩ := e
    simp only at hf he
    have HD := Lib.hid (fun W' (hb : Below W.heap.size W W') => delete_any s m n c f cid W' (h.below hb) hl)
    have HE : Hid (okW f ⟨1, cid, prio, hv⟩ = true ∧ stepW f ⟨1, cid, prio, hv⟩ = delF f cid ∧ cntW f c ⟨1, cid, prio, hv⟩ = decC f cid c) := Lib.hid ⟨by simp [okW, hf], by simp [stepW, okW, hf], by simp [cntW, okW, decC, hf]⟩
    clear h hx hf he
    go_enter Tryd.func48, Tryd.ntmps48
    go_wp2_with fail
    go_region_held3 (fun w' => w'.cell? ⟨s, 0, none⟩ = some (.map (some m)) ∧ w'.cell? ⟨W.heap.size, 0, none⟩ = some (.string ⟨cid.toArray⟩) ∧ (Instr.lookup 136 (.map (some m)) (.agg #[.string ⟨cid.toArray⟩]) true).run Tryd.prog w' = .ok (.tuple #[.agg #[.string ⟨ecid.toArray⟩, .int .i32 eprio, .int .i32 (wty ehv)], .bool true]) w') (first | exact lk_hit HWS.out HK.out HX.out hl | exact lk_hit (HWS.out.below (below_one _ _)) (bkeep (below_one _ _) HK.out) HX.out hl) (fail)
    all_goals (go_wp2_with (first | (go_at_call 64; (with_reducible refine (HD.out _ (HB2.out _)).mono ?_); clear HD; rintro e2 w2 ⟨rfl, hw2, ht2⟩; have HW2 := Lib.hid hw2; have HT2 := Lib.hid ht2; clear hw2 ht2) | fail); go_ret; refine ⟨by rw [HE.out.1]; rfl, by rw [HE.out.2.1, HE.out.2.2]; exact HW2.out.mono (Nat.le_succ n), (Turn.of_below (HB2.out _) _).trans HT2.out⟩)
set_option maxRecDepth 100000 in
set_option maxHeartbeats 8000000 in
theorem removeType_any (s m n c : Nat) (f : WMap) (q : Wnt) (W : World) (h : WS W s m n f c) (hl : q.ent.cid.length ≤ 1000) (hq : q.kind = 2) :
    Calls Tryd.prog 49 #[.pointer (some ⟨s, 0, none⟩), .agg #[.string ⟨q.ent.cid.toArray⟩], .int .i32 (wty q.ent.hv)] W (After W s m (n + 1) (stepW f q) (cntW f c q) (.bool (okW f q))) := by
  obtain ⟨kind, cid, prio, hv⟩ := q
  simp only at hl hq ⊢
  subst hq
  have hs := h.sb.lt
  have hm := h.mp.lt
  have hne := h.ne
  have HB : Hid (Below W.heap.size W (W.alloc (.cells #[.string ⟨cid.toArray⟩] 72)).drew) := Lib.hid (below_drewN (below_one W _) 1)
  have HB2 : Hid (∀ o, Below W.heap.size W ((W.alloc (.cells #[.string ⟨cid.toArray⟩] 72)).alloc o).drew) := Lib.hid (fun o => below_drewN (below_alloc (below_one W _) o) 1)
  have HWS := Lib.hid (h.below (below_one W (.cells #[.string ⟨cid.toArray⟩] 72))).drew
  have HK := Lib.hid (Blk.new W 72 #[.string ⟨cid.toArray⟩]).drew
  cases hx : foundW f cid with
  | none =>
    have HX := Lib.hid hx
    have hf := found_none hx
    have HN := Lib.hid (after_no (W' := ((W.alloc (.cells #[.string ⟨cid.toArray⟩] 72)).drew.alloc (.cells #[.string ⟨#[]⟩, .int .i32 0, .int .i32 0] 112))) (q := ⟨2, cid, prio, hv⟩) h (below_alloc HB.out _) (by simp [okW, hf]) (by simp [stepW, okW, hf]) (by simp [cntW, okW, hf]))
    clear h hx hf
    go_enter Tryd.func49, Tryd.ntmps49
    go_wp2_with fail
    go_region_held3 (fun w' => w'.cell? ⟨s, 0, none⟩ = some (.map (some m)) ∧ w'.cell? ⟨W.heap.size, 0, none⟩ = some (.string ⟨cid.toArray⟩) ∧ (Instr.lookup 136 (.map (some m)) (.agg #[.string ⟨cid.toArray⟩]) true).run Tryd.prog w' = .ok (.tuple #[.agg #[.string ⟨#[]⟩, .int .i32 0, .int .i32 0], .bool false]) w') (first | exact lk_miss HWS.out HK.out HX.out hl | exact lk_miss (HWS.out.below (below_one _ _)) (bkeep (below_one _ _) HK.out) HX.out hl) (fail)
    all_goals (go_wp2; go_ret; exact HN.out)
  | some e =>
    have HX := Lib.hid hx
    obtain ⟨hf, he⟩ := found_eq hx
    obtain ⟨ecid, eprio, ehv⟩ := e
    simp only at hf he
    cases ehv with
    | false =>
      cases hv with
      | true =>
        have HN := Lib.hid (after_no (W' := ((W.alloc (.cells #[.string ⟨cid.toArray⟩] 72)).drew.alloc (.cells #[.string ⟨ecid.toArray⟩, .int .i32 eprio, .int .i32 0] 112))) (q := ⟨2, cid, prio, true⟩) h (below_alloc HB.out _) (by simp [okW, hf]) (by simp [stepW, okW, hf]) (by simp [cntW, okW, hf]))
        clear h hx hf he
        rw [show wty true = 1 from rfl]
        go_enter Tryd.func49, Tryd.ntmps49
        go_wp2_with fail
        go_region_held3 (fun w' => w'.cell? ⟨s, 0, none⟩ = some (.map (some m)) ∧ w'.cell? ⟨W.heap.size, 0, none⟩ = some (.string ⟨cid.toArray⟩) ∧ (Instr.lookup 136 (.map (some m)) (.agg #[.string ⟨cid.toArray⟩]) true).run Tryd.prog w' = .ok (.tuple #[.agg #[.string ⟨ecid.toArray⟩, .int .i32 eprio, .int .i32 0], .bool true]) w') (first | exact lk_hit HWS.out HK.out HX.out hl | exact lk_hit (HWS.out.below (below_one _ _)) (bkeep (below_one _ _) HK.out) HX.out hl) (fail)
        all_goals (go_wp2; go_ret; exact HN.out)
      | false =>
        have HD := Lib.hid (fun W' (hb : Below W.heap.size W W') => delete_any s m n c f cid W' (h.below hb) hl)
        have HE : Hid (okW f ⟨2, cid, prio, false⟩ = true ∧ stepW f ⟨2, cid, prio, false⟩ = delF f cid ∧ cntW f c ⟨2, cid, prio, false⟩ = decC f cid c) := Lib.hid ⟨by simp [okW, hf], by simp [stepW, okW, hf], by simp [cntW, okW, decC, hf]⟩
        clear h hx hf he
        rw [show wty false = 0 from rfl]
        go_enter Tryd.func49, Tryd.ntmps49
        go_wp2_with fail
        go_region_held3 (fun w' => w'.cell? ⟨s, 0, none⟩ = some (.map (some m)) ∧ w'.cell? ⟨W.heap.size, 0, none⟩ = some (.string ⟨cid.toArray⟩) ∧ (Instr.lookup 136 (.map (some m)) (.agg #[.string ⟨cid.toArray⟩]) true).run Tryd.prog w' = .ok (.tuple #[.agg #[.string ⟨ecid.toArray⟩, .int .i32 eprio, .int .i32 0], .bool true]) w') (first | exact lk_hit HWS.out HK.out HX.out hl | exact lk_hit (HWS.out.below (below_one _ _)) (bkeep (below_one _ _) HK.out) HX.out hl) (fail)
        all_goals (go_wp2_with (first | (go_at_call 64; (with_reducible refine (HD.out _ (HB2.out _)).mono ?_); clear HD; rintro e2 w2 ⟨rfl, hw2, ht2⟩; have HW2 := Lib.hid hw2; have HT2 := Lib.hid ht2; clear hw2 ht2) | fail); go_ret; refine ⟨by rw [HE.out.1]; rfl, by rw [HE.out.2.1, HE.out.2.2]; exact HW2.out.mono (Nat.le_succ n), (Turn.of_below (HB2.out _) _).trans HT2.out⟩)
    | true =>
      have HD := Lib.hid (fun W' (hb : Below W.heap.size W W') => delete_any s m n c f cid W' (h.below hb) hl)
      have HE : Hid (okW f ⟨2, cid, prio, hv⟩ = true ∧ stepW f ⟨2, cid, prio, hv⟩ = delF f cid ∧ cntW f c ⟨2, cid, prio, hv⟩ = decC f cid c) := Lib.hid ⟨by simp [okW, hf], by simp [stepW, okW, hf], by simp [cntW, okW, decC, hf]⟩
      clear h hx hf he
      go_enter Tryd.func49, Tryd.ntmps49
      go_wp2_with fail
      go_region_held3 (fun w' => w'.cell? ⟨s, 0, none⟩ = some (.map (some m)) ∧ w'.cell? ⟨W.heap.size, 0, none⟩ = some (.string ⟨cid.toArray⟩) ∧ (Instr.lookup 136 (.map (some m)) (.agg #[.string ⟨cid.toArray⟩]) true).run Tryd.prog w' = .ok (.tuple #[.agg #[.string ⟨ecid.toArray⟩, .int .i32 eprio, .int .i32 1], .bool true]) w') (first | exact lk_hit HWS.out HK.out HX.out hl | exact lk_hit (HWS.out.below (below_one _ _)) (bkeep (below_one _ _) HK.out) HX.out hl) (fail)
      all_goals (go_wp2_with (first | (go_at_call 64; (with_reducible refine (HD.out _ (HB2.out _)).mono ?_); clear HD; rintro e2 w2 ⟨rfl, hw2, ht2⟩; have HW2 := Lib.hid hw2; have HT2 := Lib.hid ht2; clear hw2 ht2) | fail); go_ret; refine ⟨by rw [HE.out.1]; rfl, by rw [HE.out.2.1, HE.out.2.2]; exact HW2.out.mono (Nat.le_succ n), (Turn.of_below (HB2.out _) _).trans HT2.out⟩)
set_option maxRecDepth 100000 in
set_option maxHeartbeats 8000000 in
theorem add_any (s m n c : Nat) (f : WMap) (q : Wnt) (W : World) (h : WS W s m n f c) (hl : q.ent.cid.length ≤ 1000) (hq : q.kind = 0) (hn : n ≤ 1000) :
    Calls Tryd.prog 46 #[.pointer (some ⟨s, 0, none⟩), .agg #[.string ⟨q.ent.cid.toArray⟩], .int .i32 q.ent.prio, .int .i32 (wty q.ent.hv)] W (After W s m (n + 1) (stepW f q) (cntW f c q) (.bool (okW f q))) := by
  obtain ⟨kind, cid, prio, hv⟩ := q
  simp only at hl hq ⊢
  subst hq
  have hs := h.sb.lt
  have hm := h.mp.lt
  have hne := h.ne
  have HB : Hid (Below W.heap.size W (W.alloc (.cells #[.string ⟨cid.toArray⟩] 72)).drew) := Lib.hid (below_drewN (below_one W _) 1)
  have HB2 : Hid (∀ o, Below W.heap.size W ((W.alloc (.cells #[.string ⟨cid.toArray⟩] 72)).alloc o).drew) := Lib.hid (fun o => below_drewN (below_alloc (below_one W _) o) 1)
  have HWS := Lib.hid (h.below (below_one W (.cells #[.string ⟨cid.toArray⟩] 72))).drew
  have HK := Lib.hid (Blk.new W 72 #[.string ⟨cid.toArray⟩]).drew
  cases hx : foundW f cid with
  | none =>
    have HX := Lib.hid hx
    have hf := found_none hx
    have HD : Hid (∀ W', Below W.heap.size W W' → Calls Tryd.prog 63 #[.pointer (some ⟨s, 0, none⟩), .agg #[.string ⟨cid.toArray⟩], .agg #[.string ⟨cid.toArray⟩, .int .i32 prio, .int .i32 (wty hv)]] W' (After W' s m (n + 1) (putF f cid (prio, hv)) (incC f cid c) (.tuple #[]))) := Lib.hid (fun W' hb => put_any s m n c f cid prio hv W' (h.below hb) hl hn)
    have HE : Hid (okW f ⟨0, cid, prio, hv⟩ = true ∧ stepW f ⟨0, cid, prio, hv⟩ = putF f cid (prio, hv) ∧ cntW f c ⟨0, cid, prio, hv⟩ = incC f cid c) := Lib.hid ⟨by simp [okW, hf], by simp [stepW, okW, hf], by simp [cntW, okW, incC, hf]⟩
    clear h hx hf
    go_enter Tryd.func46, Tryd.ntmps46
    go_wp2_with fail
    go_region_held3 (fun w' => w'.cell? ⟨s, 0, none⟩ = some (.map (some m)) ∧ w'.cell? ⟨W.heap.size, 0, none⟩ = some (.string ⟨cid.toArray⟩) ∧ (Instr.lookup 136 (.map (some m)) (.agg #[.string ⟨cid.toArray⟩]) true).run Tryd.prog w' = .ok (.tuple #[.agg #[.string ⟨#[]⟩, .int .i32 0, .int .i32 0], .bool false]) w') (first | exact lk_miss HWS.out HK.out HX.out hl | exact lk_miss (HWS.out.below (below_one _ _)) (bkeep (below_one _ _) HK.out) HX.out hl) (fail)
    all_goals (go_wp2_with (first | (go_at_call 63; (with_reducible refine (HD.out _ (HB2.out _)).mono ?_); clear HD; rintro e2 w2 ⟨rfl, hw2, ht2⟩; have HW2 := Lib.hid hw2; have HT2 := Lib.hid ht2; clear hw2 ht2) | fail); go_ret; refine ⟨by rw [HE.out.1]; rfl, by rw [HE.out.2.1, HE.out.2.2]; exact HW2.out.mono (Nat.le_refl _), (Turn.of_below (HB2.out _) _).trans HT2.out⟩)
  | some e =>
    have HX := Lib.hid hx
    obtain ⟨hf, he⟩ := found_eq hx
    obtain ⟨ecid, eprio, ehv⟩ := e
    simp only at hf he
    cases ehv with
    | false =>
      have HN := Lib.hid (after_no (W' := ((W.alloc (.cells #[.string ⟨cid.toArray⟩] 72)).drew.alloc (.cells #[.string ⟨ecid.toArray⟩, .int .i32 eprio, .int .i32 0] 112))) (q := ⟨0, cid, prio, hv⟩) h (below_alloc HB.out _) (by simp [okW, hf]) (by simp [stepW, okW, hf]) (by simp [cntW, okW, hf]))
      clear h hx hf he
      go_enter Tryd.func46, Tryd.ntmps46
      go_wp2_with fail
      go_region_held3 (fun w' => w'.cell? ⟨s, 0, none⟩ = some (.map (some m)) ∧ w'.cell? ⟨W.heap.size, 0, none⟩ = some (.string ⟨cid.toArray⟩) ∧ (Instr.lookup 136 (.map (some m)) (.agg #[.string ⟨cid.toArray⟩]) true).run Tryd.prog w' = .ok (.tuple #[.agg #[.string ⟨ecid.toArray⟩, .int .i32 eprio, .int .i32 0], .bool true]) w') (first | exact lk_hit HWS.out HK.out HX.out hl | exact lk_hit (HWS.out.below (below_one _ _)) (bkeep (below_one _ _) HK.out) HX.out hl) (fail)
      all_goals (go_wp2; go_ret; exact HN.out)
    | true =>
      cases hv with
      | true =>
        have HN := Lib.hid (after_no (W' := ((W.alloc (.cells #[.string ⟨cid.toArray⟩] 72)).drew.alloc (.cells #[.string ⟨ecid.toArray⟩, .int .i32 eprio, .int .i32 1] 112))) (q := ⟨0, cid, prio, true⟩) h (below_alloc HB.out _) (by simp [okW, hf]) (by simp [stepW, okW, hf]) (by simp [cntW, okW, hf]))
        clear h hx hf he
        rw [show wty true = 1 from rfl]
        go_enter Tryd.func46, Tryd.ntmps46
        go_wp2_with fail
        go_region_held3 (fun w' => w'.cell? ⟨s, 0, none⟩ = some (.map (some m)) ∧ w'.cell? ⟨W.heap.size, 0, none⟩ = some (.string ⟨cid.toArray⟩) ∧ (Instr.lookup 136 (.map (some m)) (.agg #[.string ⟨cid.toArray⟩]) true).run Tryd.prog w' = .ok (.tuple #[.agg #[.string ⟨ecid.toArray⟩, .int .i32 eprio, .int .i32 1], .bool true]) w') (first | exact lk_hit HWS.out HK.out HX.out hl | exact lk_hit (HWS.out.below (below_one _ _)) (bkeep (below_one _ _) HK.out) HX.out hl) (fail)
        all_goals (go_wp2; go_ret; exact HN.out)
      | false =>
        have HD : Hid (∀ W', Below W.heap.size W W' → Calls Tryd.prog 63 #[.pointer (some ⟨s, 0, none⟩), .agg #[.string ⟨cid.toArray⟩], .agg #[.string ⟨cid.toArray⟩, .int .i32 prio, .int .i32 (wty false)]] W' (After W' s m (n + 1) (putF f cid (prio, false)) (incC f cid c) (.tuple #[]))) := Lib.hid (fun W' hb => put_any s m n c f cid prio false W' (h.below hb) hl hn)
        have HE : Hid (okW f ⟨0, cid, prio, false⟩ = true ∧ stepW f ⟨0, cid, prio, false⟩ = putF f cid (prio, false) ∧ cntW f c ⟨0, cid, prio, false⟩ = incC f cid c) := Lib.hid ⟨by simp [okW, hf], by simp [stepW, okW, hf], by simp [cntW, okW, incC, hf]⟩
        clear h hx hf he
        rw [show wty false = 0 from rfl] at HD ⊢
        go_enter Tryd.func46, Tryd.ntmps46
        go_wp2_with fail
        go_region_held3 (fun w' => w'.cell? ⟨s, 0, none⟩ = some (.map (some m)) ∧ w'.cell? ⟨W.heap.size, 0, none⟩ = some (.string ⟨cid.toArray⟩) ∧ (Instr.lookup 136 (.map (some m)) (.agg #[.string ⟨cid.toArray⟩]) true).run Tryd.prog w' = .ok (.tuple #[.agg #[.string ⟨ecid.toArray⟩, .int .i32 eprio, .int .i32 1], .bool true]) w') (first | exact lk_hit HWS.out HK.out HX.out hl | exact lk_hit (HWS.out.below (below_one _ _)) (bkeep (below_one _ _) HK.out) HX.out hl) (fail)
        all_goals (go_wp2_with (first | (go_at_call 63; (with_reducible refine (HD.out _ (HB2.out _)).mono ?_); clear HD; rintro e2 w2 ⟨rfl, hw2, ht2⟩; have HW2 := Lib.hid hw2; have HT2 := Lib.hid ht2; clear hw2 ht2) | fail); go_ret; refine ⟨by rw [HE.out.1]; rfl, by rw [HE.out.2.1, HE.out.2.2]; exact HW2.out.mono (Nat.le_refl _), (Turn.of_below (HB2.out _) _).trans HT2.out⟩)
end Go.Proofs.YtijbdinemjiepaaDoor
