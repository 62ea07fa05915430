/- The law FnPbBack: whatever the message, the call returns true. -/
import Derived.Test.YthgbhaackihbjaaDoorPoW
import Derived.Test.YthgbhaackihbjaaDoorPoS
import Derived.Test.YthgbhaackihbjaaDoorPbI
import Derived.Test.YthgbhaackihbjaaDoorPbH
namespace Go.Proofs.YthgbhaackihbjaaDoor
open Go.RowKit

theorem node_cells {w w2 : World} {a b c : Value} {t : TypeId} (hb : Below (w.alloc (.cells #[a, b, c] t)).heap.size (w.alloc (.cells #[a, b, c] t)) w2) :
    w2.cell? ⟨w.heap.size, 0, none⟩ = some a ∧ w2.cell? ⟨w.heap.size, 1, none⟩ = some b ∧ w2.cell? ⟨w.heap.size, 2, none⟩ = some c :=
  ⟨(hb.cell (p := ⟨w.heap.size, 0, none⟩) (by simp)).trans (by simp [World.cell?_alloc_new]), (hb.cell (p := ⟨w.heap.size, 1, none⟩) (by simp)).trans (by simp [World.cell?_alloc_new]), (hb.cell (p := ⟨w.heap.size, 2, none⟩) (by simp)).trans (by simp [World.cell?_alloc_new])⟩
/-- The three cells of a block. -/
structure Three (w : World) (p : Nat) (a b c : Value) : Prop where
  lt : p < w.heap.size
  c0 : w.cell? ⟨p, 0, none⟩ = some a
  c1 : w.cell? ⟨p, 1, none⟩ = some b
  c2 : w.cell? ⟨p, 2, none⟩ = some c
theorem Three.below {w w' : World} {p : Nat} {a b c : Value} (h : Three w p a b c) (hb : Below w.heap.size w w') : Three w' p a b c :=
  ⟨Nat.lt_of_lt_of_le h.lt hb.size, (hb.cell h.lt).trans h.c0, (hb.cell h.lt).trans h.c1, (hb.cell h.lt).trans h.c2⟩
theorem Three.new (w : World) (a b c : Value) (t : TypeId) : Three (w.alloc (.cells #[a, b, c] t)) w.heap.size a b c :=
  ⟨by simp, (Blk.new w t #[a, b, c]).cell 0, (Blk.new w t #[a, b, c]).cell 1, (Blk.new w t #[a, b, c]).cell 2⟩
theorem Three.alloc {w : World} {p : Nat} {a b c : Value} (h : Three w p a b c) (o : Obj) : Three (w.alloc o) p a b c := h.below (below_one w o)
theorem links_sizes {w : World} {B : Nat} {x : PNd} {v : Value} (h : NodeArg w B x v) : ∀ l ∈ x.links, l.size < 18446744073709551616 := by
  obtain ⟨A, n, c, A2, n2, c2, -, -, -, -, -, h5⟩ := h.ex
  intro l hl
  obtain ⟨i, hi, rfl⟩ := List.mem_iff_getElem.1 hl
  have h0 : 0 < n2 := by have := h5.1; omega
  obtain ⟨b, o, -, -, hc⟩ := h5.2.2 h0
  exact (hc i _ (List.getElem?_eq_getElem hi)).ok
/-- What was written is read back. -/
structure BackIs (w : World) (x : PNd) (e : Ending) (w' : World) : Prop where
  below : Below w.heap.size w w'
  ret : ∃ A n c A2 n2 c2, e = .returned (.tuple #[.agg #[.bool x.has, .slice A n c, .slice A2 n2 c2], .bool true]) ∧ NodeArg w' w'.heap.size (plMN (mn x)) (.agg #[.bool x.has, .slice A n c, .slice A2 n2 c2])
theorem decodedBack_any (x : PNd) (A : Option Addr) (n c B : Nat) (w : World) (a0 a1 a2 : Addr) (hs : Small x) (h3 : ∀ l ∈ x.links, l.size < 18446744073709551616) (hn : n = (nodeBytes (mn x)).length) (hr : Reads w B 1 A n (u8s (nodeBytes (mn x)))) (hB : B ≤ w.heap.size) (he : ErrsM w a0 a1 a2) :
    Calls Tryd.prog 7 #[.slice A n c] w (BackIs w x) := by
  refine (decoded_any A n c B (nodeBytes (mn x)) w a0 a1 a2 hr hB (by rw [hn]; exact node_len x hs h3) (node_ours x hs h3) he).mono ?_
  rw [node_back]
  rintro e w' ⟨hb, ⟨st, A1, n1, c1, A2, n2, c2, h, rfl, ha⟩ | ⟨h, -⟩⟩
  · obtain rfl := Option.some.inj h
    rw [mn_plain] at ha
    exact ⟨hb, A1, n1, c1, A2, n2, c2, rfl, ha⟩
  · cases h
set_option maxRecDepth 100000 in
set_option maxHeartbeats 4000000 in
theorem back_any (x : PNd) (v : Value) (B : Nat) (w : World) (a0 a1 a2 : Addr) (hx : NodeArg w B x v) (hB : B ≤ w.heap.size) (he : ErrsM w a0 a1 a2) : Calls Tryd.prog 4 #[v] w (Ans w true) := by
  have hsz := links_sizes hx
  obtain ⟨A, n, c, A2, n2, c2, rfl, hrest⟩ := hx.ex
  obtain ⟨has, data, links⟩ := x
  have hbw := below_one w (.cells #[.bool has, .slice A n c, .slice A2 n2 c2] 28)
  have hx1 := hx.below (hbw.mono hB)
  have HB := Lib.hid hbw
  have HX := Lib.hid hx1
  have hz1 : B ≤ (w.alloc (.cells #[.bool has, .slice A n c, .slice A2 n2 c2] 28)).heap.size := by simp; omega
  have HZ := Lib.hid hz1
  have HSZ := Lib.hid hsz
  have HE : Hid (∀ W, Below w.heap.size w W → ErrsM W a0 a1 a2) := fun W hb => he.below hb he.lt
  clear hx hrest hbw hx1 hz1 hsz he
  go_enter Tryd.func4, Tryd.ntmps4
  go_wp2_with (go_at_call 10; refine (fits20_any ⟨has, data, links⟩ _ B _ HX.out HZ.out).mono ?_; rintro e w2 ⟨rfl, hb2⟩; cases hfit : nodeFits ⟨has, data, links⟩; all_goals (obtain ⟨c0, c1, c2'⟩ := node_cells hb2; have HB2 := Lib.hid hb2; clear hb2))
  · go_ret
    exact ⟨rfl, below_then HB.out (by simp) HB2.out⟩
  have HX2 := Lib.hid (HX.out.below (HB2.out.mono HZ.out))
  have HZ2 := Lib.hid (Nat.le_trans HZ.out HB2.out.size)
  have HBB := Lib.hid (below_then HB.out (by simp) HB2.out)
  have HSM : nodeSmall ⟨has, data, links⟩ = true → Hid (Small ⟨has, data, links⟩) := fun h => small_of h
  have hz3 : w.heap.size < w2.heap.size := by have h := HB2.out.size; simp at h; omega
  clear hfit HX HZ HB HB2
  refine (small_any ⟨has, data, links⟩ _ B _ HX2.out HZ2.out).mono ?_
  rintro e w3 ⟨rfl, hb3⟩
  cases hsm : nodeSmall ⟨has, data, links⟩
  · have HF := Lib.hid (below_then HBB.out HBB.out.size hb3)
    clear hb3 hsm HSM c0 c1 c2'
    go_wp2_with (go_at_call 6; refine (awake_any _).mono ?_; rintro e w4 ⟨rfl, hb4⟩; have HF4 := Lib.hid (below_then HF.out HF.out.size hb4); clear hb4)
    go_ret
    exact ⟨rfl, HF4.out⟩
  have hs := (HSM hsm).out
  have HS := Lib.hid hs
  clear hsm HSM hs
  have HT3 : Hid (Three w3 w.heap.size (.bool has) (.slice A n c) (.slice A2 n2 c2)) := ((⟨hz3, c0, c1, c2'⟩ : Three w2 w.heap.size _ _ _).below hb3)
  have HF := Lib.hid (below_then HBB.out HBB.out.size hb3)
  have HX3 := Lib.hid (HX2.out.below (hb3.mono HZ2.out))
  have HZ3 := Lib.hid (Nat.le_trans HZ2.out hb3.size)
  have HPS := Lib.hid (small_pl HS.out)
  have HLK : Hid ((plMN (mn ⟨has, data, links⟩)).links.length ≤ 1000000) := Nat.le_trans HPS.out.k (by decide)
  have HE1 : Hid (sameNode (plMN (mn ⟨has, data, links⟩)) ⟨has, data, links⟩ = true) := same_read _
  have HE2 : Hid (nodeEq (mn (plMN (mn ⟨has, data, links⟩))) (mn ⟨has, data, links⟩) = true) := by show _ = _; rw [mn_pl]; exact nodeEq_self _
  have HE3 : Hid (nodeEq (mn ⟨has, data, links⟩) (mn ⟨has, data, links⟩) = true) := nodeEq_self _
  have HDB := Lib.hid (fun W (n' c' : Nat) (A' : Option Addr) (B' : Nat) h1 h2 h3 h4 => decodedBack_any ⟨has, data, links⟩ A' n' c' B' W a0 a1 a2 HS.out HSZ.out h1 h2 h3 h4)
  have d0 := HT3.out.c0
  have d1 := HT3.out.c1
  have d2 := HT3.out.c2
  have d3 := HT3.out.lt
  clear c0 c1 c2' HX2 HZ2 HBB hb3 hz3
  go_wp2_with (first
    | (go_at_call 12; refine (encoded_any _ _ B _ HX3.out HZ3.out HS.out).mono ?_; rintro e w4 ⟨vb, rfl, ⟨g, cc, rfl, hlc, hlo, hr4⟩, hb4⟩; have HT4 := Lib.hid (HT3.out.below hb4); have g0 := HT4.out.c0; have g1 := HT4.out.c1; have g2 := HT4.out.c2; have g3 := HT4.out.lt; have HR4 := Lib.hid hr4; have HF4 := Lib.hid (below_then HF.out HF.out.size hb4); have HX4 := Lib.hid (HX3.out.below (hb4.mono HZ3.out)); have HZ4 := Lib.hid (Nat.le_trans HZ3.out hb4.size); clear hr4 hb4 d0 d1 d2 d3)
    | (go_at_call 7; refine (HDB.out w4 _ _ _ _ rfl HR4.out (Nat.le_refl _) (HE.out _ HF4.out)).mono ?_; rintro e w5 ⟨hb5, A5, n5, c5, B5, m5, d5, rfl, ha5⟩; have HT5 := Lib.hid (HT4.out.below hb5); have i0 := HT5.out.c0; have i1 := HT5.out.c1; have i2 := HT5.out.c2; have i3 := HT5.out.lt; have HA5 := Lib.hid ha5; have HF5 := Lib.hid (below_then HF4.out HF4.out.size hb5); have HX5 := Lib.hid (HX4.out.below (hb5.mono HZ4.out)); have HZ5 := Lib.hid (Nat.le_trans HZ4.out hb5.size); have HK6 := Lib.hid (Three.new w5 (.bool has) (.slice A5 n5 c5) (.slice B5 m5 d5) 28); have HT6 := Lib.hid (HT5.out.alloc (.cells #[.bool has, .slice A5 n5 c5, .slice B5 m5 d5] 28)); have HA6 := Lib.hid (HA5.out.below (below_one w5 (.cells #[.bool has, .slice A5 n5 c5, .slice B5 m5 d5] 28))); have HX6 := Lib.hid ((HX5.out.more HZ5.out).below (below_one w5 (.cells #[.bool has, .slice A5 n5 c5, .slice B5 m5 d5] 28))); have HF6 := Lib.hid (below_alloc HF5.out (.cells #[.bool has, .slice A5 n5 c5, .slice B5 m5 d5] 28)); clear hb5 ha5 g0 g1 g2 g3)
    | (go_at_call 9; refine (same_any (plMN (mn ⟨has, data, links⟩)) ⟨has, data, links⟩ _ _ w5.heap.size _ HA6.out HX6.out (by simp) HLK.out).mono ?_; rw [HE1.out]; rintro e w7 ⟨rfl, hb7⟩; have HT7 := Lib.hid (HT6.out.below hb7); have HK7 := Lib.hid (HK6.out.below hb7); have j0 := HT7.out.c0; have j1 := HT7.out.c1; have j2 := HT7.out.c2; have q0 := HK7.out.c0; have q1 := HK7.out.c1; have q2 := HK7.out.c2; have HF7 := Lib.hid (below_then HF6.out HF6.out.size hb7); have HA7 := Lib.hid (HA6.out.below (hb7.mono (by simp))); have HX7 := Lib.hid (HX6.out.below (hb7.mono (by simp))); have HZ7 : Hid (w5.heap.size ≤ w7.heap.size) := Nat.le_trans (by simp) hb7.size; clear hb7)
    | (go_at_call_of 13 (Value.agg #[.bool has, .slice A5 n5 c5, .slice B5 m5 d5]); refine (implSame_any (plMN (mn ⟨has, data, links⟩)) ⟨has, data, links⟩ _ _ w5.heap.size _ HA7.out HX7.out HZ7.out HPS.out HS.out).mono ?_; rw [HE2.out]; rintro e w8 ⟨rfl, hb8⟩; have HT8 := Lib.hid (HT7.out.below hb8); have l0 := HT8.out.c0; have l1 := HT8.out.c1; have l2 := HT8.out.c2; have HF8 := Lib.hid (below_then HF7.out HF7.out.size hb8); have HX8 := Lib.hid (HX7.out.below (hb8.mono HZ7.out)); have HZ8 := Lib.hid (Nat.le_trans HZ7.out hb8.size); clear hb8)
    | (go_at_call_of 13 (Value.agg #[.bool has, .slice A n c, .slice A2 n2 c2]); refine (implSame_any ⟨has, data, links⟩ ⟨has, data, links⟩ _ _ w5.heap.size _ HX8.out HX8.out HZ8.out HS.out HS.out).mono ?_; rw [HE3.out]; rintro e w9 ⟨rfl, hb9⟩; have HF9 := Lib.hid (below_then HF8.out HF8.out.size hb9); clear hb9)
    | (go_at_call 6; refine (awake_any _).mono ?_; rintro e w10 ⟨rfl, hb10⟩; have HF10 := Lib.hid (below_then HF9.out HF9.out.size hb10); clear hb10)
    | fail)
  go_ret
  exact ⟨rfl, HF10.out⟩
end Go.Proofs.YthgbhaackihbjaaDoor
