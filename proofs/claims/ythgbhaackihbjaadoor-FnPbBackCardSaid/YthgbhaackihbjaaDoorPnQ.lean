/- The thin package's plainPbLink: a link's message as data. -/
import Derived.Deep.RegionHeld3
import Derived.Test.YthgbhaackihbjaaDoorPnW
namespace Go.Proofs.YthgbhaackihbjaaDoor
open Go.RowKit

theorem is_some {α β : Type} {a : Option α} {b : Option β} (h : a.isNone = b.isNone) : a.isSome = b.isSome := by cases a <;> cases b <;> simp_all
/-- A link's message as data. -/
def plML (m : ML) : PLk := ⟨m.hash.isSome, m.name.isSome, m.size.isSome, optBytes m.hash, m.name.getD ByteArray.empty, m.size.getD 0⟩
theorem neq_nil (W : World) (A : Option Addr) (l c : Nat) : (binOp .neq 22 (.slice A l c) (.slice none 0 0)).run Tryd.prog W = .ok (.bool (!A.isNone)) W := by
  simp only [binOp]
  simp [run_equal_slice_nil W 22 5 A l c Tryd.underlying22]
set_option maxRecDepth 100000 in
theorem getName_any {w : World} {lo B p : Nat} {m : ML} (h : LinkObj w lo B p m) : Calls Tryd.prog 39 #[.pointer (some ⟨p, 0, none⟩)] w fun e w' => e = .returned (.string (m.name.getD ByteArray.empty)) ∧ w' = w := by
  obtain ⟨v, hc, hv⟩ := h.nm
  obtain ⟨mh, mnm, ms⟩ := m
  rcases hv with ⟨hn, rfl⟩ | ⟨s, q, hn, -, -, rfl, hq⟩
  · simp only at hn
    subst hn
    clear h
    go_enter Tryd.func39, Tryd.ntmps39
    go_wp2
    go_ret
    exact ⟨rfl, rfl⟩
  · simp only at hn
    subst hn
    clear h
    go_enter Tryd.func39, Tryd.ntmps39
    go_wp2
    go_ret
    exact ⟨rfl, rfl⟩
set_option maxRecDepth 100000 in
theorem getSize_any {w : World} {lo B p : Nat} {m : ML} (h : LinkObj w lo B p m) : Calls Tryd.prog 40 #[.pointer (some ⟨p, 0, none⟩)] w fun e w' => e = .returned (.int .u64 ((m.size.getD 0 : Nat) : Int)) ∧ w' = w := by
  obtain ⟨v, hc, hv⟩ := h.sz
  obtain ⟨mh, mnm, ms⟩ := m
  rcases hv with ⟨hn, rfl⟩ | ⟨s, q, hn, -, -, -, rfl, hq⟩
  · simp only at hn
    subst hn
    clear h
    go_enter Tryd.func40, Tryd.ntmps40
    go_wp2
    go_ret
    exact ⟨rfl, rfl⟩
  · simp only at hn
    subst hn
    clear h
    go_enter Tryd.func40, Tryd.ntmps40
    go_wp2
    go_ret
    exact ⟨rfl, rfl⟩
/-- The three pointers' tests, and their values. -/
theorem LinkObj.open_ {w : World} {lo B p : Nat} {m : ML} (h : LinkObj w lo B p m) : ∃ A c P Q, w.cell? ⟨p, 0, none⟩ = some (.slice A (optBytes m.hash).length c) ∧ A.isNone = m.hash.isNone ∧ Reads w B 1 A (optBytes m.hash).length (u8s (optBytes m.hash)) ∧ w.cell? ⟨p, 1, none⟩ = some (.pointer P) ∧ P.isNone = m.name.isNone ∧ w.cell? ⟨p, 2, none⟩ = some (.pointer Q) ∧ Q.isNone = m.size.isNone ∧ m.size.getD 0 < 18446744073709551616 := by
  obtain ⟨v0, c0, A, c, rfl, hA, -, hr, -⟩ := h.h
  obtain ⟨v1, c1, h1⟩ := h.nm
  obtain ⟨v2, c2, h2⟩ := h.sz
  obtain ⟨P, rfl, hP⟩ : ∃ P, v1 = .pointer P ∧ P.isNone = m.name.isNone := by
    rcases h1 with ⟨e, rfl⟩ | ⟨s, q, e, -, -, rfl, -⟩
    · exact ⟨none, rfl, by rw [e]; rfl⟩
    · exact ⟨_, rfl, by rw [e]; rfl⟩
  obtain ⟨Q, rfl, hQ, hz⟩ : ∃ Q, v2 = .pointer Q ∧ Q.isNone = m.size.isNone ∧ m.size.getD 0 < 18446744073709551616 := by
    rcases h2 with ⟨e, rfl⟩ | ⟨s, q, e, hs, -, -, rfl, -⟩
    · exact ⟨none, rfl, by rw [e]; rfl, by rw [e]; decide⟩
    · exact ⟨_, rfl, by rw [e]; rfl, by rw [e]; exact hs⟩
  exact ⟨A, c, P, Q, c0, hA, hr, c1, hP, c2, hQ, hz⟩
/-- A link by value comes back, its hash in a row of the call's own. -/
structure PlIs (w : World) (l : PLk) (e : Ending) (w' : World) : Prop where
  below : Below w.heap.size w w'
  ret : ∃ A c, e = .returned (.agg #[.bool l.hh, .bool l.hn, .bool l.hs, .slice A l.hash.length c, .string l.name, .int .u64 (l.size : Int)]) ∧ w'.ownsRow w.heap.size 5 1 (.slice A l.hash.length c) l.hash.length (u8s l.hash)
  ok : l.size < 18446744073709551616
theorem six_set' {w : World} {g : Nat} {c0 c1 c2 c3 c4 c5 : Value} (h : Blk w g 53 #[c0, c1, c2, c3, c4, c5]) (v0 v1 v2 v3 v4 v5 : Value) :
    Blk ((((((w.setCell ⟨g, 0, none⟩ v0).setCell ⟨g, 1, none⟩ v1).setCell ⟨g, 2, none⟩ v2).setCell ⟨g, 3, none⟩ v3).setCell ⟨g, 4, none⟩ v4).setCell ⟨g, 5, none⟩ v5) g 53 #[v0, v1, v2, v3, v4, v5] :=
  (((((h.set_ 0 v0).set_ 1 v1).set_ 2 v2).set_ 3 v3).set_ 4 v4).set_ 5 v5
theorem six_below' {B : Nat} {a w : World} {g : Nat} (h : Below B a w) (hg : B ≤ g) (v0 v1 v2 v3 v4 v5 : Value) :
    Below B a ((((((w.setCell ⟨g, 0, none⟩ v0).setCell ⟨g, 1, none⟩ v1).setCell ⟨g, 2, none⟩ v2).setCell ⟨g, 3, none⟩ v3).setCell ⟨g, 4, none⟩ v4).setCell ⟨g, 5, none⟩ v5) :=
  (((((h.setCell hg v0).setCell hg v1).setCell hg v2).setCell hg v3).setCell hg v4).setCell hg v5
theorem own_six' {w : World} {base size n g : Nat} {e : TypeId} {v : Value} {xs : List Value} (h : w.ownsRow base e size v n xs) (hg : v.ownBlock ≠ some g) (v0 v1 v2 v3 v4 v5 : Value) :
    ((((((w.setCell ⟨g, 0, none⟩ v0).setCell ⟨g, 1, none⟩ v1).setCell ⟨g, 2, none⟩ v2).setCell ⟨g, 3, none⟩ v3).setCell ⟨g, 4, none⟩ v4).setCell ⟨g, 5, none⟩ v5).ownsRow base e size v n xs :=
  own_far (own_far (own_far (own_far (own_far (own_far h v0 hg) v1 hg) v2 hg) v3 hg) v4 hg) v5 hg
theorem six_cell {w : World} {p g : Nat} (hne : p ≠ g) (i : Nat) (v0 v1 v2 v3 v4 v5 : Value) : ((((((w.setCell ⟨g, 0, none⟩ v0).setCell ⟨g, 1, none⟩ v1).setCell ⟨g, 2, none⟩ v2).setCell ⟨g, 3, none⟩ v3).setCell ⟨g, 4, none⟩ v4).setCell ⟨g, 5, none⟩ v5).cell? ⟨p, i, none⟩ = w.cell? ⟨p, i, none⟩ := by
  have k : ∀ (W : World) (j : Nat) (v : Value), (W.setCell ⟨g, j, none⟩ v).cell? ⟨p, i, none⟩ = W.cell? ⟨p, i, none⟩ := fun W j v => World.cell?_of_block (Below.heap_setCell W ⟨g, j, none⟩ v p hne)
  rw [k, k, k, k, k, k]
/-- What plainPbLink reads from step to step. -/
structure PSt (w0 w : World) (lo B p : Nat) (m : ML) (A : Option Addr) (n c : Nat) (P Q : Option Addr) : Prop where
  obj : LinkObj w lo B p m
  hB : B ≤ w.heap.size
  below : Below w0.heap.size w0 w
  res : Blk w w0.heap.size 53 #[.bool false, .bool false, .bool false, .slice none 0 0, .string ⟨#[]⟩, .int .u64 0]
  rd : Reads w B 1 A n (u8s (optBytes m.hash))
  k0 : w.cell? ⟨p, 0, none⟩ = some (.slice A n c)
  k1 : w.cell? ⟨p, 1, none⟩ = some (.pointer P)
  k2 : w.cell? ⟨p, 2, none⟩ = some (.pointer Q)
theorem PSt.next {w0 w w' : World} {lo B p : Nat} {m : ML} {A : Option Addr} {n c : Nat} {P Q : Option Addr} (h : PSt w0 w lo B p m A n c P Q) (hb : Below w.heap.size w w') : PSt w0 w' lo B p m A n c P Q := by
  have hp := h.obj.lt
  have hB := h.hB
  have e : ∀ i, w'.cell? ⟨p, i, none⟩ = w.cell? ⟨p, i, none⟩ := fun i => hb.cell (p := ⟨p, i, none⟩) (by show p < _; omega)
  exact ⟨h.obj.below (hb.mono hB), Nat.le_trans hB hb.size, below_then h.below h.below.size hb, h.res.below hb h.res.lt, h.rd.below (hb.mono hB), (e 0).trans h.k0, (e 1).trans h.k1, (e 2).trans h.k2⟩
theorem PSt.drew {w0 w : World} {lo B p : Nat} {m : ML} {A : Option Addr} {n c : Nat} {P Q : Option Addr} (h : PSt w0 w lo B p m A n c P Q) : PSt w0 w.drew lo B p m A n c P Q := h.next (below_drewN (Below.refl _ w) 1)
set_option maxRecDepth 100000 in
set_option maxHeartbeats 8000000 in
theorem plainLink_any {w : World} {lo B p : Nat} {m : ML} (h : LinkObj w lo B p m) (hB : B ≤ w.heap.size) (hl : (optBytes m.hash).length ≤ 1000000) :
    Calls Tryd.prog 30 #[.pointer (some ⟨p, 0, none⟩)] w (PlIs w (plML m)) := by
  have hb0 := below_one w (.cells #[.bool false, .bool false, .bool false, .slice none 0 0, .string ⟨#[]⟩, .int .u64 0] 53)
  have h1 := h.below (hb0.mono hB)
  obtain ⟨A, c, P, Q, k0, hA, hr, k1, hP, k2, hQ, hz⟩ := h1.open_
  have HZ := Lib.hid hz
  obtain ⟨n, hn⟩ : ∃ n, (optBytes m.hash).length = n := ⟨_, rfl⟩
  rw [hn] at k0 hr hl
  have hS : PSt w (w.alloc (.cells #[.bool false, .bool false, .bool false, .slice none 0 0, .string ⟨#[]⟩, .int .u64 0] 53)) lo B p m A n c P Q := ⟨h1, Nat.le_trans hB hb0.size, hb0, Blk.new _ _ _, hr, k0, k1, k2⟩
  have HS := Lib.hid hS.drew
  have HN := Lib.hid hn
  have h48 : n ≤ 140737488355328 := by omega
  have HPn := Lib.hid hP
  have HQn := Lib.hid hQ
  have HAn := Lib.hid hA
  have hpne : p ≠ w.heap.size := by have := h.lt; omega
  have hnn := neq_nil
  have HC := Lib.hid (fun W (hr : Reads W B 1 A n (u8s (optBytes m.hash))) hB => clone_u8 A n c B (u8s (optBytes m.hash)) W hr (u8s_one _) h48 hB)
  have HG := Lib.hid (fun W (h : LinkObj W lo B p m) => getName_any h)
  have HT := Lib.hid (fun W (h : LinkObj W lo B p m) => getSize_any h)
  clear h h1 hb0 hr hn hz hS hB hl h48 hA hP hQ
  go_enter Tryd.func30, Tryd.ntmps30
  go_upto_region 1 with fail
  go_region_held3 (fun w' => w'.cell? ⟨p, 0, none⟩ = some (.slice A n c) ∧ w'.cell? ⟨p, 1, none⟩ = some (.pointer P) ∧ w'.cell? ⟨p, 2, none⟩ = some (.pointer Q)) (first | (with_reducible exact ⟨k0, k1, k2⟩) | (with_reducible exact ⟨HS.out.k0, HS.out.k1, HS.out.k2⟩) | exact ⟨(six_cell hpne _ _ _ _ _ _ _).trans k0, (six_cell hpne _ _ _ _ _ _ _).trans k1, (six_cell hpne _ _ _ _ _ _ _).trans k2⟩) (first | (go_at_call 18; refine (HC.out _ HS.out.rd HS.out.hB).mono ?_; clear HC; rintro e w1 ⟨⟨v1, rfl, ho, -⟩, hb⟩; obtain ⟨A9, c9, rfl, -, -⟩ := own_shape ho; have HO := Lib.hid (own_more ho HS.out.below.size); have HNE : Hid ((Value.slice A9 n c9).ownBlock ≠ some w.heap.size) := (fun e => by have h1 := own_base ho _ e; have h2 := HS.out.res.lt; omega); have hS := HS.out.next hb; clear k0 k1 k2 HS hb ho; have HS := Lib.hid hS; have k0 := hS.k0; have k1 := hS.k1; have k2 := hS.k2; have r0 := hS.res.cell 0; have r1 := hS.res.cell 1; have r2 := hS.res.cell 2; have r3 := hS.res.cell 3; have r4 := hS.res.cell 4; have r5 := hS.res.cell 5; have rf := hS.res.frozen; clear hS) | (go_at_call 39; refine (HG.out _ HS.out.obj).mono ?_; clear HG; rintro e w1 ⟨rfl, rfl⟩) | (go_at_call 40; refine (HT.out _ HS.out.obj).mono ?_; clear HT; rintro e w1 ⟨rfl, rfl⟩) | fail)
  all_goals
    go_wp2
    (try simp only [Exit.inBlock, Exit.then])
    refine bodyPost_ret (results_cell_row rfl _ _ _ _ _ _ _ rfl (six_set' HS.out.res (.bool A.isSome) (.bool P.isSome) (.bool Q.isSome) (.slice A9 n c9) (.string (m.name.getD ByteArray.empty)) (.int .u64 ((m.size.getD 0 : Nat) : Int))) Tryd.underlying53 rfl (by kernel_rfl)) rfl ?_
    refine ⟨six_below' HS.out.below (Nat.le_refl _) _ _ _ _ _ _, ⟨A9, c9, ?_, ?_⟩, HZ.out⟩
    · show _ = Ending.returned (.agg #[.bool m.hash.isSome, .bool m.name.isSome, .bool m.size.isSome, .slice A9 (optBytes m.hash).length c9, .string (m.name.getD ByteArray.empty), .int .u64 ((m.size.getD 0 : Nat) : Int)])
      rw [HN.out, is_some HAn.out, is_some HPn.out, is_some HQn.out]
    · show World.ownsRow _ _ _ _ (.slice A9 (optBytes m.hash).length c9) (optBytes m.hash).length (u8s (optBytes m.hash))
      rw [HN.out]
      exact own_six' HO.out HNE.out _ _ _ _ _ _
end Go.Proofs.YthgbhaackihbjaaDoor
