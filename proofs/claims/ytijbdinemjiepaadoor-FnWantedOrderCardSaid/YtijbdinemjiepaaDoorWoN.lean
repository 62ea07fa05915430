/- Contains and Len of a want list; impl.wantType, impl.plainEntry. -/
import Derived.Test.YtijbdinemjiepaaDoorWoK
import Derived.Test.YtijbdinemjiepaaDoorIdC
namespace Go.Proofs.YtijbdinemjiepaaDoor
open Go.RowKit

theorem len_any (s m n c : Nat) (f : WMap) (W : World) (h : WS W s m n f c) : Calls Tryd.prog 52 #[.pointer (some ⟨s, 0, none⟩)] W fun e W' => e = .returned (.int .i64 (c : Nat)) ∧ W = W' := by
  have s0 : W.cell? ⟨s, 0, none⟩ = some (.map (some m)) := h.sb.cell 0
  have hs := h.sb.lt
  have hl := fun ty => h.mp.len ty
  have hl3 := hl 3
  clear h hl
  go_enter Tryd.func52, Tryd.ntmps52
  go_wp2
  go_ret
  exact ⟨rfl, rfl⟩
theorem wantType_any (b : Bool) (W : World) : Calls Tryd.prog 47 #[.bool b] W fun e W' => e = .returned (.int .i32 (wty b)) ∧ W = W' := by
  cases b with
  | false =>
    rw [show wty false = 0 from rfl]
    go_enter Tryd.func47, Tryd.ntmps47
    go_wp2
    go_ret
    exact ⟨rfl, rfl⟩
  | true =>
    rw [show wty true = 1 from rfl]
    go_enter Tryd.func47, Tryd.ntmps47
    go_wp2
    go_ret
    exact ⟨rfl, rfl⟩
set_option maxRecDepth 100000 in
set_option maxHeartbeats 8000000 in
theorem contains_miss (s m n c : Nat) (f : WMap) (cid : List UInt8) (W : World) (h : WS W s m n f c) (hl : cid.length ≤ 1000) (hx : foundW f cid = none) :
    Calls Tryd.prog 50 #[.pointer (some ⟨s, 0, none⟩), .agg #[.string ⟨cid.toArray⟩]] W fun e W' => e = .returned (.tuple #[.agg #[.string ⟨#[]⟩, .int .i32 0, .int .i32 0], .bool false]) ∧ Below W.heap.size W W' := by
  have hs := h.sb.lt
  have hm := h.mp.lt
  have hne := h.ne
  have hb := below_alloc (below_one W (.cells #[.string ⟨cid.toArray⟩] 72)) (.cells #[.string ⟨#[]⟩, .int .i32 0, .int .i32 0] 112)
  have HB := Lib.hid (below_drewN (below_alloc (below_alloc (below_one W (.cells #[.string ⟨cid.toArray⟩] 72)) (.cells #[.string ⟨#[]⟩, .int .i32 0, .int .i32 0] 112)) (.cells #[.string ⟨#[]⟩, .int .i32 0, .int .i32 0] 112)) 1)
  have HWS := Lib.hid (h.below hb).drew
  have HK := Lib.hid ((Blk.new W 72 #[.string ⟨cid.toArray⟩]).alloc (.cells #[.string ⟨#[]⟩, .int .i32 0, .int .i32 0] 112)).drew
  have hbk := ((Blk.new (W.alloc (.cells #[.string ⟨cid.toArray⟩] 72)) 112 #[.string ⟨#[]⟩, .int .i32 0, .int .i32 0]).alloc (.cells #[.string ⟨#[]⟩, .int .i32 0, .int .i32 0] 112)).drew
  rw [World.size_alloc] at hbk
  have HBK := Lib.hid hbk
  have HX := Lib.hid hx
  clear h hx hb hbk
  go_enter Tryd.func50, Tryd.ntmps50
  go_wp2_with fail
  go_region_held3 (fun w' => w'.cell? ⟨s, 0, none⟩ = some (.map (some m)) ∧ w'.cell? ⟨W.heap.size, 0, none⟩ = some (.string ⟨cid.toArray⟩) ∧ (Instr.lookup 136 (.map (some m)) (.agg #[.string ⟨cid.toArray⟩]) true).run Tryd.prog w' = .ok (.tuple #[.agg #[.string ⟨#[]⟩, .int .i32 0, .int .i32 0], .bool false]) w') (first | exact lk_miss HWS.out HK.out HX.out hl | exact lk_miss (HWS.out.below (below_one _ _)) (bkeep (below_one _ _) HK.out) HX.out hl) (fail)
  all_goals (go_wp2; refine bodyPost_ret (results_cell_then rfl _ _ _ _ _ _ _ rfl HBK.out Tryd.underlying112 rfl (by kernel_rfl)) rfl ?_; exact ⟨rfl, HB.out⟩)
set_option maxRecDepth 100000 in
set_option maxHeartbeats 8000000 in
theorem contains_hit (s m n c : Nat) (f : WMap) (cid : List UInt8) (e0 : Enr) (W : World) (h : WS W s m n f c) (hl : cid.length ≤ 1000) (hx : foundW f cid = some e0) :
    Calls Tryd.prog 50 #[.pointer (some ⟨s, 0, none⟩), .agg #[.string ⟨cid.toArray⟩]] W fun e W' => e = .returned (.tuple #[.agg #[.string ⟨e0.cid.toArray⟩, .int .i32 e0.prio, .int .i32 (wty e0.hv)], .bool true]) ∧ Below W.heap.size W W' := by
  have hs := h.sb.lt
  have hm := h.mp.lt
  have hne := h.ne
  have hb := below_alloc (below_one W (.cells #[.string ⟨cid.toArray⟩] 72)) (.cells #[.string ⟨#[]⟩, .int .i32 0, .int .i32 0] 112)
  have HB := Lib.hid (below_drewN (below_alloc (below_alloc (below_one W (.cells #[.string ⟨cid.toArray⟩] 72)) (.cells #[.string ⟨e0.cid.toArray⟩, .int .i32 e0.prio, .int .i32 (wty e0.hv)] 112)) (.cells #[.string ⟨e0.cid.toArray⟩, .int .i32 e0.prio, .int .i32 (wty e0.hv)] 112)) 1)
  have HWS := Lib.hid (h.below hb).drew
  have HK := Lib.hid ((Blk.new W 72 #[.string ⟨cid.toArray⟩]).alloc (.cells #[.string ⟨#[]⟩, .int .i32 0, .int .i32 0] 112)).drew
  have hbk := ((Blk.new (W.alloc (.cells #[.string ⟨cid.toArray⟩] 72)) 112 #[.string ⟨e0.cid.toArray⟩, .int .i32 e0.prio, .int .i32 (wty e0.hv)]).alloc (.cells #[.string ⟨e0.cid.toArray⟩, .int .i32 e0.prio, .int .i32 (wty e0.hv)] 112)).drew
  rw [World.size_alloc] at hbk
  have HBK := Lib.hid hbk
  have HX := Lib.hid hx
  clear h hx hb hbk
  go_enter Tryd.func50, Tryd.ntmps50
  go_wp2_with fail
  go_region_held3 (fun w' => w'.cell? ⟨s, 0, none⟩ = some (.map (some m)) ∧ w'.cell? ⟨W.heap.size, 0, none⟩ = some (.string ⟨cid.toArray⟩) ∧ (Instr.lookup 136 (.map (some m)) (.agg #[.string ⟨cid.toArray⟩]) true).run Tryd.prog w' = .ok (.tuple #[.agg #[.string ⟨e0.cid.toArray⟩, .int .i32 e0.prio, .int .i32 (wty e0.hv)], .bool true]) w') (first | exact lk_hit HWS.out HK.out HX.out hl | exact lk_hit (HWS.out.below (below_one _ _)) (bkeep (below_one _ _) HK.out) HX.out hl) (fail)
  all_goals (go_wp2; refine bodyPost_ret (results_cell_then rfl _ _ _ _ _ _ _ rfl HBK.out Tryd.underlying112 rfl (by kernel_rfl)) rfl ?_; exact ⟨rfl, HB.out⟩)
theorem reads_bytes (w : World) (s : ByteArray) : Reads (Lib.bytesWorld w 5 s) (w.heap.size + 1) 1 (some ⟨w.heap.size, 0, none⟩) s.size (u8s s.data.toList) := by
  have hsl : s.data.toList.length = s.size := Array.length_toList
  refine ⟨by rw [u8s_length, hsl]; omega, fun _ => ⟨⟨w.heap.size, 0, none⟩, rfl, Nat.lt_succ_self _, fun j u hu => ?_⟩⟩
  have hj : j < s.data.toList.length := by
    have := (List.getElem?_eq_some_iff.mp hu).1
    rwa [u8s_length] at this
  rw [add_plain, Nat.zero_add, Lib.bytesWorld_cell w _ s j (by omega), ← hu, u8s_at _ _ hj, List.getD_eq_getElem?_getD, List.getElem?_eq_getElem hj]
  rfl
theorem below_bytes (w : World) (s : ByteArray) : Below w.heap.size w (Lib.bytesWorld w 5 s) :=
  ⟨rfl, rfl, rfl, by rw [Lib.bytesWorld_size]; omega, fun k hk => Lib.bytesWorld_at_old w _ s k hk⟩
/-- Bytes that can be read. -/
structure Bts (W : World) (l : List UInt8) (r : Ending) (W' : World) : Prop where
  ex : ∃ b o c, r = .returned (.slice (some ⟨b, o, none⟩) l.length c) ∧ l.length ≤ c ∧ Reads W' W'.heap.size 1 (some ⟨b, o, none⟩) l.length (u8s l)
  below : Below W.heap.size W W'
theorem defined_any (l : List UInt8) (hl : 0 < l.length) (W : World) : Calls Tryd.prog 82 #[.agg #[.string ⟨l.toArray⟩]] W fun e W' => e = .returned (.bool true) ∧ Below W.heap.size W W' := by
  obtain ⟨x, t, rfl⟩ : ∃ x t, l = x :: t := by cases l with | nil => simp at hl | cons x t => exact ⟨x, t, rfl⟩
  have HB := Lib.hid (below_one W (.cells #[.string ⟨(x :: t).toArray⟩] 72))
  go_enter Tryd.func82, Tryd.ntmps82
  go_wp2
  go_ret
  exact ⟨rfl, HB.out⟩
set_option maxRecDepth 100000 in
theorem cidBytes_any (l : List UInt8) (hl : 0 < l.length) (W : World) : Calls Tryd.prog 65 #[.agg #[.string ⟨l.toArray⟩]] W (Bts W l) := by
  have HD := Lib.hid (fun w => defined_any l hl w)
  obtain ⟨s, hs⟩ : ∃ s : ByteArray, s = ⟨l.toArray⟩ := ⟨_, rfl⟩
  have hsz : s.size = l.length := by rw [hs]; show l.toArray.size = _; simp
  have hsl : s.data.toList = l := by rw [hs]
  have hcv := fun W : World => Lib.run_convert_string_bytes (P := Tryd.prog) W 9 30 5 s Tryd.underlying9 Tryd.underlying30 Tryd.underlying5
  have HB := Lib.hid (below_one W (.cells #[.string s] 72))
  have HK := Lib.hid (Blk.new W 72 #[.string s])
  rw [← hs] at HD ⊢
  have HSZ := Lib.hid hsz
  have HSL := Lib.hid hsl
  clear hs hsz hsl
  go_enter Tryd.func65, Tryd.ntmps65
  go_wp2_with (first | (go_at_call 82; (with_reducible refine (HD.out _).mono ?_); clear HD; rintro e w1 ⟨rfl, hb⟩; have hk := bkeep hb HK.out; have k0 : w1.cell? ⟨W.heap.size, 0, none⟩ = some (.string s) := hk.cell 0; have HB1 := Lib.hid (below_then HB.out HB.out.size hb); clear hb hk) | fail)
  go_ret
  have hr := reads_bytes w1 s
  rw [HSZ.out, HSL.out] at hr
  refine ⟨⟨w1.heap.size, 0, grownCap w1 s.size 0 5, by rw [← HSZ.out]; rfl, by rw [← HSZ.out]; exact grownCap_ge _ _ _ _, hr.more (by rw [Lib.bytesWorld_size]; exact Nat.le_refl _)⟩, below_then HB1.out HB1.out.size (below_bytes w1 s)⟩
/-- An entry by value, with bytes of its own. -/
structure PlainE (W : World) (e : Enr) (r : Ending) (W' : World) : Prop where
  ex : ∃ v, r = .returned (.agg #[v, .int .i32 e.prio, .bool e.hv]) ∧ W'.ownsRow W.heap.size 5 1 v e.cid.length (u8s e.cid)
  below : Below W.heap.size W W'
theorem far3 {w : World} {g g' : Nat} {T : TypeId} {a b c : Value} (h : Blk w g T #[a, b, c]) (_ : g' < w.heap.size) (hne : g ≠ g') (x y z : Value) :
    (((w.setCell ⟨g', 0, none⟩ x).setCell ⟨g', 1, none⟩ y).setCell ⟨g', 2, none⟩ z).cell? ⟨g, 0, none⟩ = some a ∧ (((w.setCell ⟨g', 0, none⟩ x).setCell ⟨g', 1, none⟩ y).setCell ⟨g', 2, none⟩ z).cell? ⟨g, 1, none⟩ = some b ∧ (((w.setCell ⟨g', 0, none⟩ x).setCell ⟨g', 1, none⟩ y).setCell ⟨g', 2, none⟩ z).cell? ⟨g, 2, none⟩ = some c := by
  have h1 := blk_set_far (blk_set_far (blk_set_far h g' 0 hne x) g' 1 hne y) g' 2 hne z
  exact ⟨h1.cell 0, h1.cell 1, h1.cell 2⟩
theorem turn3 (w : World) (g : Nat) (x y z : Value) : Turn (fun k => k = g) w (((w.setCell ⟨g, 0, none⟩ x).setCell ⟨g, 1, none⟩ y).setCell ⟨g, 2, none⟩ z) :=
  ((Turn.of_grown (only_set w g 0 x) (fun k hk => by injection hk with hk; exact hk.symm)).trans (Turn.of_grown (only_set _ g 1 y) (fun k hk => by injection hk with hk; exact hk.symm))).trans (Turn.of_grown (only_set _ g 2 z) (fun k hk => by injection hk with hk; exact hk.symm))
theorem own_turn1 {w w' : World} {base n size g : Nat} {e T : TypeId} {v : Value} {xs : List Value} {cs : Array Value} (h : w.ownsRow base e size v n xs) (ht : Turn (fun k => k = g) w w') (hb : Blk w g T cs) (hne : e ≠ T) : w'.ownsRow base e size v n xs :=
  ht.own h (fun k hk e2 => own_blk_ne h hb hne (by rw [hk, e2]))
theorem fin3 {w : World} {g : Nat} {T : TypeId} {a b c : Value} (h : Blk w g T #[a, b, c]) (x y z : Value) : Blk (((w.setCell ⟨g, 0, none⟩ x).setCell ⟨g, 1, none⟩ y).setCell ⟨g, 2, none⟩ z) g T #[x, y, z] := ((h.set_ 0 x).set_ 1 y).set_ 2 z
set_option maxRecDepth 100000 in
set_option maxHeartbeats 8000000 in
theorem plain_false (l : List UInt8) (p : Int) (hl : 0 < l.length) (hl2 : l.length ≤ 1000) (W : World) : Calls Tryd.prog 51 #[.agg #[.string ⟨l.toArray⟩, .int .i32 p, .int .i32 0]] W (PlainE W ⟨l, p, false⟩) := by
  have hb := below_alloc (below_one W (.cells #[.string ⟨l.toArray⟩, .int .i32 p, .int .i32 0] 112)) (.cells #[.slice none 0 0, .int .i32 0, .bool false] 52)
  have HB := Lib.hid (below_drewN hb 1)
  have HBy := Lib.hid (fun w => cidBytes_any l hl w)
  have HK := Lib.hid ((Blk.new W 112 #[.string ⟨l.toArray⟩, .int .i32 p, .int .i32 0]).alloc (.cells #[.slice none 0 0, .int .i32 0, .bool false] 52)).drew
  have hr := (Blk.new (W.alloc (.cells #[.string ⟨l.toArray⟩, .int .i32 p, .int .i32 0] 112)) 52 #[.slice none 0 0, .int .i32 0, .bool false]).drew
  rw [World.size_alloc] at hr
  have HR := Lib.hid hr
  have HCL : Hid (∀ (b o c : Nat) (w : World), Reads w w.heap.size 1 (some ⟨b, o, none⟩) l.length (u8s l) → Calls Tryd.prog 30 #[.slice (some ⟨b, o, none⟩) l.length c] w (Made w 5 1 l.length (u8s l) ((some ⟨b, o, none⟩ : Option Addr) = none))) := Lib.hid (fun b o c w h => clone_u8 _ _ c _ _ w h (u8s_one l) (by omega) (Nat.le_refl _))
  have k0 : (((W.alloc (.cells #[.string ⟨l.toArray⟩, .int .i32 p, .int .i32 0] 112)).alloc (.cells #[.slice none 0 0, .int .i32 0, .bool false] 52)).drew).cell? ⟨W.heap.size, 0, none⟩ = some (.string ⟨l.toArray⟩) ∧ (((W.alloc (.cells #[.string ⟨l.toArray⟩, .int .i32 p, .int .i32 0] 112)).alloc (.cells #[.slice none 0 0, .int .i32 0, .bool false] 52)).drew).cell? ⟨W.heap.size, 1, none⟩ = some (.int .i32 p) ∧ (((W.alloc (.cells #[.string ⟨l.toArray⟩, .int .i32 p, .int .i32 0] 112)).alloc (.cells #[.slice none 0 0, .int .i32 0, .bool false] 52)).drew).cell? ⟨W.heap.size, 2, none⟩ = some (.int .i32 0) := ⟨HK.out.cell 0, HK.out.cell 1, HK.out.cell 2⟩
  have K0 := Lib.hid k0
  have hne : W.heap.size ≠ W.heap.size + 1 := by omega
  clear hb hr k0
  go_enter Tryd.func51, Tryd.ntmps51
  go_wp2_with fail
  go_region_held3 (fun w' => w'.cell? ⟨W.heap.size, 0, none⟩ = some (.string ⟨l.toArray⟩) ∧ w'.cell? ⟨W.heap.size, 1, none⟩ = some (.int .i32 p) ∧ w'.cell? ⟨W.heap.size, 2, none⟩ = some (.int .i32 0)) (first | exact K0.out | exact KF.out) (first
    | (go_at_call 65; (with_reducible refine (HBy.out _).mono ?_); rintro e w1 ⟨⟨b, o, c, rfl, hc, hrd⟩, hb⟩; have HRD := Lib.hid hrd; have hk := Lib.hid (bkeep hb HK.out); have hx := Lib.hid (bkeep hb HR.out); have hbb := Lib.hid (below_then HB.out HB.out.size hb); clear K0 HK HR HB hrd hb; have HK := hk; have HR := hx; have HB := hbb; clear hk hx hbb; have K0 : Hid (w1.cell? ⟨W.heap.size, 0, none⟩ = some (.string ⟨l.toArray⟩) ∧ w1.cell? ⟨W.heap.size, 1, none⟩ = some (.int .i32 p) ∧ w1.cell? ⟨W.heap.size, 2, none⟩ = some (.int .i32 0)) := Lib.hid ⟨HK.out.cell 0, HK.out.cell 1, HK.out.cell 2⟩)
    | (go_at_call 30; (with_reducible refine (HCL.out _ _ _ _ HRD.out).mono ?_); clear HCL; rintro e w2 ⟨⟨v2, rfl, ho, _⟩, hb⟩; obtain ⟨A2, c2, rfl, hc2, _⟩ := own_shape ho; have HO := Lib.hid (own_more (base' := W.heap.size) ho HB.out.size); have hk := Lib.hid (bkeep hb HK.out); have hx := Lib.hid (bkeep hb HR.out); have hbb := Lib.hid (below_then HB.out HB.out.size hb); clear K0 HK HR HB ho hb HRD; have HK := hk; have HR := hx; have HB := hbb; clear hk hx hbb; have K0 : Hid (w2.cell? ⟨W.heap.size, 0, none⟩ = some (.string ⟨l.toArray⟩) ∧ w2.cell? ⟨W.heap.size, 1, none⟩ = some (.int .i32 p) ∧ w2.cell? ⟨W.heap.size, 2, none⟩ = some (.int .i32 0)) := Lib.hid ⟨HK.out.cell 0, HK.out.cell 1, HK.out.cell 2⟩; have r0 : w2.cell? ⟨W.heap.size + 1, 0, none⟩ = some (.slice none 0 0) := HR.out.cell 0; have r1 : w2.cell? ⟨W.heap.size + 1, 1, none⟩ = some (.int .i32 0) := HR.out.cell 1; have r2 : w2.cell? ⟨W.heap.size + 1, 2, none⟩ = some (.bool false) := HR.out.cell 2; have rf := HR.out.frozen; have f0 := rf 0; have f1 := rf 1; have f2 := rf 2; clear rf; have KF := Lib.hid (far3 HK.out HR.out.lt hne (.slice A2 l.length c2) (.int .i32 p) (.bool false)))
    | fail)
  all_goals (go_wp2; refine bodyPost_ret (results_cell_row rfl _ _ _ _ _ _ _ rfl (fin3 HR.out _ _ _) Tryd.underlying52 rfl (by kernel_rfl)) rfl ?_; exact ⟨⟨_, rfl, own_turn1 HO.out (turn3 _ _ _ _ _) HR.out (by decide)⟩, ((HB.out.setCell (Nat.le_succ _) _).setCell (Nat.le_succ _) _).setCell (Nat.le_succ _) _⟩)
set_option maxRecDepth 100000 in
set_option maxHeartbeats 8000000 in
theorem plain_true (l : List UInt8) (p : Int) (hl : 0 < l.length) (hl2 : l.length ≤ 1000) (W : World) : Calls Tryd.prog 51 #[.agg #[.string ⟨l.toArray⟩, .int .i32 p, .int .i32 1]] W (PlainE W ⟨l, p, true⟩) := by
  have hb := below_alloc (below_one W (.cells #[.string ⟨l.toArray⟩, .int .i32 p, .int .i32 1] 112)) (.cells #[.slice none 0 0, .int .i32 0, .bool false] 52)
  have HB := Lib.hid (below_drewN hb 1)
  have HBy := Lib.hid (fun w => cidBytes_any l hl w)
  have HK := Lib.hid ((Blk.new W 112 #[.string ⟨l.toArray⟩, .int .i32 p, .int .i32 1]).alloc (.cells #[.slice none 0 0, .int .i32 0, .bool false] 52)).drew
  have hr := (Blk.new (W.alloc (.cells #[.string ⟨l.toArray⟩, .int .i32 p, .int .i32 1] 112)) 52 #[.slice none 0 0, .int .i32 0, .bool false]).drew
  rw [World.size_alloc] at hr
  have HR := Lib.hid hr
  have HCL : Hid (∀ (b o c : Nat) (w : World), Reads w w.heap.size 1 (some ⟨b, o, none⟩) l.length (u8s l) → Calls Tryd.prog 30 #[.slice (some ⟨b, o, none⟩) l.length c] w (Made w 5 1 l.length (u8s l) ((some ⟨b, o, none⟩ : Option Addr) = none))) := Lib.hid (fun b o c w h => clone_u8 _ _ c _ _ w h (u8s_one l) (by omega) (Nat.le_refl _))
  have k0 : (((W.alloc (.cells #[.string ⟨l.toArray⟩, .int .i32 p, .int .i32 1] 112)).alloc (.cells #[.slice none 0 0, .int .i32 0, .bool false] 52)).drew).cell? ⟨W.heap.size, 0, none⟩ = some (.string ⟨l.toArray⟩) ∧ (((W.alloc (.cells #[.string ⟨l.toArray⟩, .int .i32 p, .int .i32 1] 112)).alloc (.cells #[.slice none 0 0, .int .i32 0, .bool false] 52)).drew).cell? ⟨W.heap.size, 1, none⟩ = some (.int .i32 p) ∧ (((W.alloc (.cells #[.string ⟨l.toArray⟩, .int .i32 p, .int .i32 1] 112)).alloc (.cells #[.slice none 0 0, .int .i32 0, .bool false] 52)).drew).cell? ⟨W.heap.size, 2, none⟩ = some (.int .i32 1) := ⟨HK.out.cell 0, HK.out.cell 1, HK.out.cell 2⟩
  have K0 := Lib.hid k0
  have hne : W.heap.size ≠ W.heap.size + 1 := by omega
  clear hb hr k0
  go_enter Tryd.func51, Tryd.ntmps51
  go_wp2_with fail
  go_region_held3 (fun w' => w'.cell? ⟨W.heap.size, 0, none⟩ = some (.string ⟨l.toArray⟩) ∧ w'.cell? ⟨W.heap.size, 1, none⟩ = some (.int .i32 p) ∧ w'.cell? ⟨W.heap.size, 2, none⟩ = some (.int .i32 1)) (first | exact K0.out | exact KF.out) (first
    | (go_at_call 65; (with_reducible refine (HBy.out _).mono ?_); rintro e w1 ⟨⟨b, o, c, rfl, hc, hrd⟩, hb⟩; have HRD := Lib.hid hrd; have hk := Lib.hid (bkeep hb HK.out); have hx := Lib.hid (bkeep hb HR.out); have hbb := Lib.hid (below_then HB.out HB.out.size hb); clear K0 HK HR HB hrd hb; have HK := hk; have HR := hx; have HB := hbb; clear hk hx hbb; have K0 : Hid (w1.cell? ⟨W.heap.size, 0, none⟩ = some (.string ⟨l.toArray⟩) ∧ w1.cell? ⟨W.heap.size, 1, none⟩ = some (.int .i32 p) ∧ w1.cell? ⟨W.heap.size, 2, none⟩ = some (.int .i32 1)) := Lib.hid ⟨HK.out.cell 0, HK.out.cell 1, HK.out.cell 2⟩)
    | (go_at_call 30; (with_reducible refine (HCL.out _ _ _ _ HRD.out).mono ?_); clear HCL; rintro e w2 ⟨⟨v2, rfl, ho, _⟩, hb⟩; obtain ⟨A2, c2, rfl, hc2, _⟩ := own_shape ho; have HO := Lib.hid (own_more (base' := W.heap.size) ho HB.out.size); have hk := Lib.hid (bkeep hb HK.out); have hx := Lib.hid (bkeep hb HR.out); have hbb := Lib.hid (below_then HB.out HB.out.size hb); clear K0 HK HR HB ho hb HRD; have HK := hk; have HR := hx; have HB := hbb; clear hk hx hbb; have K0 : Hid (w2.cell? ⟨W.heap.size, 0, none⟩ = some (.string ⟨l.toArray⟩) ∧ w2.cell? ⟨W.heap.size, 1, none⟩ = some (.int .i32 p) ∧ w2.cell? ⟨W.heap.size, 2, none⟩ = some (.int .i32 1)) := Lib.hid ⟨HK.out.cell 0, HK.out.cell 1, HK.out.cell 2⟩; have r0 : w2.cell? ⟨W.heap.size + 1, 0, none⟩ = some (.slice none 0 0) := HR.out.cell 0; have r1 : w2.cell? ⟨W.heap.size + 1, 1, none⟩ = some (.int .i32 0) := HR.out.cell 1; have r2 : w2.cell? ⟨W.heap.size + 1, 2, none⟩ = some (.bool false) := HR.out.cell 2; have rf := HR.out.frozen; have f0 := rf 0; have f1 := rf 1; have f2 := rf 2; clear rf; have KF := Lib.hid (far3 HK.out HR.out.lt hne (.slice A2 l.length c2) (.int .i32 p) (.bool true)))
    | fail)
  all_goals (go_wp2; refine bodyPost_ret (results_cell_row rfl _ _ _ _ _ _ _ rfl (fin3 HR.out _ _ _) Tryd.underlying52 rfl (by kernel_rfl)) rfl ?_; exact ⟨⟨_, rfl, own_turn1 HO.out (turn3 _ _ _ _ _) HR.out (by decide)⟩, ((HB.out.setCell (Nat.le_succ _) _).setCell (Nat.le_succ _) _).setCell (Nat.le_succ _) _⟩)
theorem plainEntry_any (e : Enr) (hl : 0 < e.cid.length) (hl2 : e.cid.length ≤ 1000) (W : World) : Calls Tryd.prog 51 #[.agg #[.string ⟨e.cid.toArray⟩, .int .i32 e.prio, .int .i32 (wty e.hv)]] W (PlainE W e) := by
  obtain ⟨l, p, h⟩ := e
  cases h with
  | false => exact plain_false l p hl hl2 W
  | true => exact plain_true l p hl hl2 W
end Go.Proofs.YtijbdinemjiepaaDoor
