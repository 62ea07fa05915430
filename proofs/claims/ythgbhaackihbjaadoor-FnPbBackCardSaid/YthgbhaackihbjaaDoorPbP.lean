/- The reference's plain links, and whether two links tell the same. -/
import Derived.Deep.AppendLies
import Derived.Test.YthgbhaackihbjaaDoorPbEn
namespace Go.Proofs.YthgbhaackihbjaaDoor
open Go.RowKit

/-- A link of which only that counts which is there. -/
def plain (l : PLk) : PLk := ⟨l.hh, l.hn, l.hs, if l.hh then l.hash else [], if l.hn then l.name else ByteArray.empty, if l.hs then l.size else 0⟩
def plainV (b : Bool) (v : Value) : Value := if b then v else .slice none 0 0
def linkV (l : PLk) (v : Value) : Value := .agg #[.bool l.hh, .bool l.hn, .bool l.hs, v, .string l.name, .int .u64 l.size]
def linkO (l : PLk) (v : Value) : Obj := .cells #[.bool l.hh, .bool l.hn, .bool l.hs, v, .string l.name, .int .u64 l.size] 53
set_option maxRecDepth 100000 in
theorem plain_any (l : PLk) (A : Option Addr) (n c : Nat) (w : World) :
    Calls Tryd.prog 31 #[linkV l (.slice A n c)] w fun e w' => e = .returned (linkV (plain l) (plainV l.hh (.slice A n c))) ∧ w' = (w.alloc (linkO (plain l) (plainV l.hh (.slice A n c)))).alloc (linkO (plain l) (plainV l.hh (.slice A n c))) := by
  obtain ⟨hh, hn, hs, hash, name, size⟩ := l
  cases hh <;> cases hn <;> cases hs
  all_goals
    (simp only [linkV, linkO, plain, plainV]
     go_enter Tryd.func31, Tryd.ntmps31
     go_wp2
     (try simp only [Exit.inBlock, Exit.then])
     refine bodyPost_ret (results_cell_row rfl _ _ _ _ _ _ _ rfl (heap_alloc2_new w _ _) Tryd.underlying53 rfl (by kernel_rfl)) rfl ?_
     exact ⟨rfl, rfl⟩)
theorem int_beq (a b : Nat) : ((a : Int) == (b : Int)) = (a == b) := by
  rw [Bool.eq_iff_iff]
  simp only [beq_iff_eq]
  omega
theorem below_six (w : World) (a b c d e f : Obj) : Below w.heap.size w ((((((w.alloc a).alloc b).alloc c).alloc d).alloc e).alloc f).drew :=
  below_drewN (below_alloc (below_alloc (below_alloc (below_alloc (below_alloc (below_one w a) b) c) d) e) f) 1
theorem Reads.six {w : World} {B size n : Nat} {A : Option Addr} {xs : List Value} (h : Reads w B size A n xs) (hB : B ≤ w.heap.size) (a b c d e f : Obj) : Reads ((((((w.alloc a).alloc b).alloc c).alloc d).alloc e).alloc f).drew B size A n xs :=
  h.below ((below_six w a b c d e f).mono hB)
def sameLink (a b : PLk) : Bool := (a.hh == b.hh) && (a.hn == b.hn) && (a.hs == b.hs) && ((plain a).hash == (plain b).hash) && ((plain a).name.toList == (plain b).name.toList) && ((plain a).size == (plain b).size)
theorem plain_slice {l : PLk} {w : World} {B c : Nat} {A : Option Addr} (h : Reads w B 1 A l.hash.length (u8s l.hash)) : ∃ X n d, plainV l.hh (.slice A l.hash.length c) = .slice X n d ∧ Reads w B 1 X n (u8s (plain l).hash) := by
  obtain ⟨hh, hn, hs, hash, name, size⟩ := l
  cases hh
  · exact ⟨none, 0, 0, rfl, Reads.none_⟩
  · exact ⟨A, _, c, rfl, h⟩
set_option maxRecDepth 100000 in
set_option maxHeartbeats 4000000 in
theorem sameLink_any (a b : PLk) (A A' : Option Addr) (c c' B : Nat) (w : World) (hr : Reads w B 1 A a.hash.length (u8s a.hash)) (hr' : Reads w B 1 A' b.hash.length (u8s b.hash)) (hB : B ≤ w.heap.size) :
    Calls Tryd.prog 21 #[linkV a (.slice A a.hash.length c), linkV b (.slice A' b.hash.length c')] w (Ans w (sameLink a b)) := by
  obtain ⟨X, n, d, pa, hx⟩ := plain_slice (c := c) hr
  obtain ⟨Y, m, d', pb, hy⟩ := plain_slice (c := c') hr'
  have h1 := fun W : World => plain_any a A a.hash.length c W
  have h2 := fun W : World => plain_any b A' b.hash.length c' W
  rw [pa] at h1
  rw [pb] at h2
  have ep : ∀ l : PLk, (plain l).hh = l.hh ∧ (plain l).hn = l.hn ∧ (plain l).hs = l.hs := fun l => ⟨rfl, rfl, rfl⟩
  simp only [linkV, linkO, (ep a).1, (ep a).2.1, (ep a).2.2, (ep b).1, (ep b).2.1, (ep b).2.2] at h1 h2
  simp only [sameLink, linkV]
  have HX := Lib.hid hx
  have HY := Lib.hid hy
  have H1 := Lib.hid h1
  have H2 := Lib.hid h2
  clear hr hr' pa pb hx hy h1 h2 ep
  generalize (plain a).hash = pha at HX H1 ⊢
  generalize (plain b).hash = phb at HY H2 ⊢
  generalize (plain a).name = pna at H1 ⊢
  generalize (plain b).name = pnb at H2 ⊢
  generalize (plain a).size = psa at H1 ⊢
  generalize (plain b).size = psb at H2 ⊢
  generalize a.hash.length = la at H1 ⊢
  generalize b.hash.length = lb at H2 ⊢
  obtain ⟨ah, an, as_, _, aname, asize⟩ := a
  obtain ⟨bh, bn, bs_, _, bname, bsize⟩ := b
  simp only at H1 H2 ⊢
  go_enter Tryd.func21, Tryd.ntmps21
  go_wp2_with fail
  go_region_law (first | (go_simp; go_at_call_of 31 (Value.agg #[.bool ah, .bool an, .bool as_, .slice A la c, .string aname, .int .u64 asize]); refine (H1.out _).mono ?_; rintro e w1 ⟨rfl, rfl⟩) | (go_simp; go_at_call_of 31 (Value.agg #[.bool bh, .bool bn, .bool bs_, .slice A' lb c', .string bname, .int .u64 bsize]); refine (H2.out _).mono ?_; rintro e w2 ⟨rfl, rfl⟩) | fail)
  all_goals
    cases q1 : ah == bh
    · go_wp2
      go_ret
      exact ⟨by simp [q1], below_six ..⟩
    cases q2 : an == bn
    · go_wp2
      go_ret
      exact ⟨by simp [q2], below_six ..⟩
    cases q3 : as_ == bs_
    · go_wp2
      go_ret
      exact ⟨by simp [q3], below_six ..⟩
    cases q4 : pha == phb
    · go_wp2_with (first | (go_at_call 16; refine (sameBytes_any _ _ _ _ _ _ B B pha phb _ (HX.out.six hB ..) (HY.out.six hB ..)).mono ?_; rw [q4]; rintro e w3 ⟨rfl, rfl⟩) | fail)
      go_ret
      exact ⟨by simp [q4], below_six ..⟩
    cases q5 : pna.toList == pnb.toList
    · go_wp2_with (first | (go_at_call 16; refine (sameBytes_any _ _ _ _ _ _ B B pha phb _ (HX.out.six hB ..) (HY.out.six hB ..)).mono ?_; rw [q4]; rintro e w3 ⟨rfl, rfl⟩) | fail)
      go_ret
      exact ⟨by simp [q5], below_six ..⟩
    go_wp2_with (first | (go_at_call 16; refine (sameBytes_any _ _ _ _ _ _ B B pha phb _ (HX.out.six hB ..) (HY.out.six hB ..)).mono ?_; rw [q4]; rintro e w3 ⟨rfl, rfl⟩) | fail)
    go_ret
    exact ⟨by simp [q1, q2, q3, q4, q5, int_beq], below_six ..⟩
end Go.Proofs.YthgbhaackihbjaaDoor
