/- A PBNode in memory while it is read. -/
import Derived.Test.YthgbhaackihbjaaDoorPnR
namespace Go.Proofs.YthgbhaackihbjaaDoor
open Go.RowKit

/-- The struct at block b tells st; what it points to lies from lo on; the links read so far each in a range of its own. -/
structure NRep (w : World) (b lo : Nat) (st : PNd) (vl vd : Value) (ps : List Nat) : Prop where
  blk : Blk w b 46 #[vl, vd, .slice none 0 0, .int .i32 0]
  blo : b < lo
  data : w.ownsRow lo 5 1 vd st.data.length (u8s st.data)
  dnil : vd = .slice none 0 0 ↔ st.has = false
  row : w.ownsRow lo 64 1 vl ps.length (ptrs ps)
  len : ps.length = st.links.length
  ls : ∀ (i q : Nat), ps[i]? = some q → ∃ l li hi, st.links[i]? = some l ∧ lo ≤ q ∧ q < li ∧ hi ≤ w.heap.size ∧ LIn w li hi q l ∧ (∀ k, vl.ownBlock = some k → k < li ∨ hi ≤ k) ∧ (∀ k, vd.ownBlock = some k → k < li ∨ hi ≤ k)
theorem LIn.blk {w : World} {lo hi q : Nat} {st : PLk} (h : LIn w lo hi q st) : ∃ cs, Blk w q 68 cs := by
  obtain ⟨vh, vn, vs, h, -⟩ := h.ex
  exact ⟨_, h.blk⟩
section
variable {w w' : World} {b lo : Nat} {st : PNd} {vl vd : Value} {ps : List Nat}
theorem NRep.alloc (h : NRep w b lo st vl vd ps) (o : Obj) : NRep (w.alloc o) b lo st vl vd ps :=
  ⟨h.blk.alloc o, h.blo, h.data.alloc o, h.dnil, h.row.alloc o, h.len, fun i q hq => by
    obtain ⟨l, li, hi, h1, h2, h3, h4, h5, h6, h7⟩ := h.ls i q hq
    exact ⟨l, li, hi, h1, h2, h3, Nat.le_trans h4 (by simp), h5.grown (World.grownBy_alloc w o none) (by simp) (fun k e => by cases e), h6, h7⟩⟩
theorem NRep.drew (h : NRep w b lo st vl vd ps) : NRep w.drew b lo st vl vd ps :=
  ⟨h.blk, h.blo, h.data, h.dnil, h.row, h.len, fun i q hq => by
    obtain ⟨l, li, hi, h1, h2, h3, h4, h5, h6, h7⟩ := h.ls i q hq
    exact ⟨l, li, hi, h1, h2, h3, h4, h5.grown (only_drew (World.grownBy.refl w none)) (by simp) (fun k e => by cases e), h6, h7⟩⟩
theorem NRep.start (w : World) {b : Nat} (hb : Blk w b 46 #[.slice none 0 0, .slice none 0 0, .slice none 0 0, .int .i32 0]) : NRep w b w.heap.size PNd.zero (.slice none 0 0) (.slice none 0 0) [] :=
  ⟨hb, hb.lt, World.ownsRow_nil _ _ _ _, ⟨fun _ => rfl, fun _ => rfl⟩, World.ownsRow_nil _ _ _ _, rfl, fun i q hq => by simp at hq⟩
theorem NRep.data_far (h : NRep w b lo st vl vd ps) (hg : w.grownBy w' vd.ownBlock) : Blk w' b 46 #[vl, vd, .slice none 0 0, .int .i32 0] :=
  h.blk.grown hg fun e => own_blk_ne h.data h.blk (by decide) e.symm
theorem NRep.row_far (h : NRep w b lo st vl vd ps) (hg : w.grownBy w' vl.ownBlock) : Blk w' b 46 #[vl, vd, .slice none 0 0, .int .i32 0] :=
  h.blk.grown hg fun e => own_blk_ne h.row h.blk (by decide) e.symm
/-- The data's row is grown, and laid in the struct. -/
theorem NRep.setData (h : NRep w b lo st vl vd ps) {d : List UInt8} {vd' : Value} {n : Nat} (hown : w'.ownsRow lo 5 1 vd' n (u8s d)) (hn : n = d.length) (hg : w.grownBy w' vd.ownBlock) (hne : vd' ≠ .slice none 0 0) (hat : ∀ k, vd'.ownBlock = some k → vd.ownBlock = some k ∨ w.heap.size ≤ k) :
    NRep (w'.setCell ⟨b, 1, none⟩ vd') b lo { st with has := true, data := d } vl vd' ps := by
  subst hn
  have hb := h.blo
  have hrow : w'.ownsRow lo 64 1 vl ps.length (ptrs ps) := h.row.kept hg (own_own_ne h.row h.data (by decide))
  refine ⟨(h.data_far hg).set_ 1 vd', hb, own_far hown _ fun e => by have := own_base hown b e; omega, ⟨fun e => absurd e hne, fun e => (by cases e)⟩, own_far hrow _ fun e => by have := own_base hrow b e; omega, h.len, fun i q hq => ?_⟩
  obtain ⟨l, li, hi, h1, h2, h3, h4, h5, h6, h7⟩ := h.ls i q hq
  obtain ⟨cs, hbq⟩ := h5.blk
  have h8 := h5.grown hg (fun e => own_blk_ne h.data hbq (by decide) e) h7
  refine ⟨l, li, hi, h1, h2, h3, Nat.le_trans h4 (by simpa [World.setCell] using hg.size), h8.grown (only_set w' b 1 vd') (fun e => by injection e; omega) (fun k e => by injection e; omega), h6, fun k e => ?_⟩
  rcases hat k e with e2 | e2
  · exact h7 k e2
  · exact .inr (by omega)
theorem NRep.emptyData (h : NRep w b lo st vl vd ps) (hlo : lo ≤ w.heap.size) {V : List UInt8} (hV : V = []) :
    NRep (((w.setCell ⟨b, 1, none⟩ (.slice none 0 0)).setCell ⟨b, 1, none⟩ (.slice (some ⟨w.heap.size, 0, none⟩) 0 0)).alloc (.cells #[] 5)).drew b lo { st with has := true, data := V } vl (.slice (some ⟨w.heap.size, 0, none⟩) 0 0) ps := by
  subst hV
  have hb := h.blo
  have hlt := h.blk.lt
  have hsz : (w.setCell ⟨b, 1, none⟩ (.slice none 0 0)).heap.size = w.heap.size := by simp [World.setCell]
  have hlt2 : b < (w.setCell ⟨b, 1, none⟩ (.slice none 0 0)).heap.size := by rw [hsz]; exact hlt
  rw [ptr_world hlt2]
  have ho := World.ownsRow_made (base := lo) (e := 5) (size := 1) (w.setCell ⟨b, 1, none⟩ (.slice none 0 0)) #[] 0 (by rw [hsz]; exact hlo) (by unfold maxLen; omega) rfl
  rw [hsz] at ho
  have hg1 := only_set w b 1 (.slice none 0 0)
  have hg2 : w.grownBy (((w.setCell ⟨b, 1, none⟩ (.slice none 0 0)).alloc (.cells #[] 5)).setCell ⟨b, 1, none⟩ (.slice (some ⟨w.heap.size, 0, none⟩) 0 0)) (some b) := only_setb (only_alloc hg1 _) 1 _
  have hrb : vl.ownBlock ≠ some b := fun e => by have := own_base h.row b e; omega
  refine NRep.drew ⟨(((h.blk.set_ 1 _).alloc _).set_ 1 _), hb, own_far ho _ fun e => by have := own_base ho b e; omega, ⟨fun e => (by cases e), fun e => (by cases e)⟩, h.row.kept hg2 (.inr hrb), h.len, fun i q hq => ?_⟩
  obtain ⟨l, li, hi, h1, h2, h3, h4, h5, h6, h7⟩ := h.ls i q hq
  refine ⟨l, li, hi, h1, h2, h3, Nat.le_trans h4 hg2.size, h5.grown hg2 (fun e => by injection e; omega) (fun k e => by injection e; omega), h6, fun k e => ?_⟩
  have e3 : w.heap.size = k := by simpa [Value.ownBlock] using e
  exact .inr (by omega)
/-- A link is appended, and then read. -/
theorem NRep.addLink {o : Obj} {w1 w2 w3 : World} {vl' : Value} {l : PLk} {vh vn vs : Value} (h : NRep w b lo st vl vd ps) (hlo : lo ≤ w.heap.size) (hown : w1.ownsRow lo 64 1 vl' (ps.length + 1) (ptrs ps ++ [.pointer (some ⟨w.heap.size, 0, none⟩)])) (hg : (w.alloc o).grownBy w1 vl.ownBlock)
    (hat : vl'.ownBlock = vl.ownBlock ∨ ∃ k, vl'.ownBlock = some k ∧ (w.alloc o).heap.size ≤ k) (h2 : w2 = (w1.setCell ⟨b, 0, none⟩ vl').drew) (hg3 : w2.grownBy w3 (some w.heap.size)) (hl : LRep w3 w.heap.size w2.heap.size l vh vn vs) :
    NRep w3 b lo { st with links := st.links ++ [l] } vl' vd (ps ++ [w.heap.size]) := by
  have hb := h.blo
  have hblt := h.blk.lt
  have hsz1 : w.heap.size + 1 ≤ w1.heap.size := by have := hg.size; simpa using this
  have hsz2 : w2.heap.size = w1.heap.size := by rw [h2]; simp [World.setCell, World.drew]
  have ha := h.alloc o
  have hgb : w1.grownBy w2 (some b) := by rw [h2]; exact only_drew (only_set w1 b 0 vl')
  have hvl : ∀ k, vl'.ownBlock = some k → vl.ownBlock = some k ∨ w.heap.size + 1 ≤ k := by
    intro k e
    rcases hat with e2 | ⟨k2, e2, e3⟩
    · exact .inl (e2 ▸ e)
    · rw [e] at e2
      obtain rfl := Option.some.inj e2
      exact .inr (by simpa using e3)
  have hvq : vl'.ownBlock ≠ some w.heap.size := fun e => by
    rcases hvl _ e with e2 | e2
    · have := (h.row.lt _ e2).2; omega
    · omega
  have hdq : vd.ownBlock ≠ some w.heap.size := fun e => by have := (h.data.lt _ e).2; omega
  have hdb : vd.ownBlock ≠ some b := fun e => by have := own_base h.data b e; omega
  have hvb : vl'.ownBlock ≠ some b := fun e => by have := own_base hown b e; omega
  have hd1 : w1.ownsRow lo 5 1 vd st.data.length (u8s st.data) := ha.data.kept hg (own_own_ne ha.data ha.row (by decide))
  have hB1 : Blk w2 b 46 #[vl', vd, .slice none 0 0, .int .i32 0] := by rw [h2]; exact ((ha.row_far hg).set_ 0 vl').drew
  have e1 : ptrs ps ++ [.pointer (some ⟨w.heap.size, 0, none⟩)] = ptrs (ps ++ [w.heap.size]) := by rw [ptrs_append]; rfl
  rw [e1] at hown
  refine ⟨hB1.grown hg3 (fun e => by injection e; omega), hb, (hd1.kept hgb (.inr hdb)).kept hg3 (.inr hdq), h.dnil, ?_, by simp [h.len], fun i q hq => ?_⟩
  · rw [List.length_append]
    exact (hown.kept hgb (.inr hvb)).kept hg3 (.inr hvq)
  · by_cases hi : i < ps.length
    · rw [List.getElem?_append_left hi] at hq
      obtain ⟨y, li, hi2, h1, h2', h3, h4, h5, h6, h7⟩ := ha.ls i q hq
      obtain ⟨y0, li0, hi0, k1, k2, k3, k4, k5, k6, k7⟩ := h.ls i q hq
      obtain ⟨cs, hbq⟩ := k5.blk
      have hql := hbq.lt
      have s1 := (k5.grown (World.grownBy_alloc w o none) (by simp) (fun k e => by cases e)).grown hg (fun e => own_blk_ne h.row hbq (by decide) e) k6
      have s2 := s1.grown hgb (fun e => by injection e; omega) (fun k e => by injection e; omega)
      have s3 := s2.grown hg3 (fun e => by injection e; omega) (fun k e => by injection e; omega)
      refine ⟨y0, li0, hi0, ?_, k2, k3, by have := hg3.size; omega, s3, fun k e => ?_, k7⟩
      · rw [List.getElem?_append_left (by rw [← h.len]; exact hi)]
        exact k1
      · rcases hvl k e with e2 | e2
        · exact k6 k e2
        · exact .inr (by omega)
    · have hlt := (List.getElem?_eq_some_iff.mp hq).1
      simp at hlt
      obtain rfl : i = ps.length := by omega
      rw [List.getElem?_append_right (Nat.le_refl _), Nat.sub_self] at hq
      simp at hq
      subst hq
      refine ⟨l, w2.heap.size, w3.heap.size, ?_, hlo, by omega, Nat.le_refl _, hl.in_, fun k e => .inl ?_, fun k e => .inl ?_⟩
      · rw [h.len, List.getElem?_append_right (Nat.le_refl _), Nat.sub_self]
        rfl
      · rw [hsz2]; exact (hown.lt k e).2
      · have := (h.data.lt k e).2; omega
end
/-- What Unmarshal of a node leaves. -/
def UnIs (b : Nat) (R : Option PNd) (w : World) (e : Ending) (w' : World) : Prop :=
  w.grownBy w' (some b) ∧ ((R = none ∧ ∃ a, e = .returned (.iface 78 (.pointer (some a)))) ∨ ∃ st vl vd ps, R = some st ∧ e = .returned .nilIface ∧ NRep w' b w.heap.size st vl vd ps)
theorem UnIs.err {b : Nat} {R : Option PNd} {w w' : World} {a : Addr} (h : w.grownBy w' (some b)) (hR : R = none) : UnIs b R w (.returned (.iface 78 (.pointer (some a)))) w' := ⟨h, .inl ⟨hR, a, rfl⟩⟩
end Go.Proofs.YthgbhaackihbjaaDoor
