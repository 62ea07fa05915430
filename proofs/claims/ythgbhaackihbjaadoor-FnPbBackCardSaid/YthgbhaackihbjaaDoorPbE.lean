/- Marshal of a node; the thin package's PbEncoded. -/
import Derived.Test.YthgbhaackihbjaaDoorPbW
namespace Go.Proofs.YthgbhaackihbjaaDoor
open Go.RowKit

theorem linksBytes_le (ls : List ML) (h : ∀ l ∈ ls, (linkBytes l).length ≤ 215) : (linksBytes ls).length ≤ 218 * ls.length := by
  induction ls with
  | nil => simp [linksBytes]
  | cons x ls ih =>
    have h1 := h x (List.mem_cons_self ..)
    have h2 := ih fun l hl => h l (List.mem_cons_of_mem _ hl)
    have h3 := uv_two (n := (linkBytes x).length) (by omega)
    have h4 := fieldB_length 18 (linkBytes x)
    have h5 : linksBytes (x :: ls) = fieldB 18 (linkBytes x) ++ linksBytes ls := rfl
    rw [h5, List.length_append, h4, List.length_cons]
    omega
theorem nodeBytes_le {w : World} {lo B p : Nat} {m : MN} (h : NodeObj w lo B p m) (hs : ShortN m) : (nodeBytes m).length ≤ 10000 := by
  obtain ⟨A, n, c, ps, _, _, hln, hr, hps⟩ := h.ls
  have hpl : ps.length = n := by have := hr.1; rw [ptrs_length] at this; omega
  have hall : ∀ l ∈ m.links, (linkBytes l).length ≤ 215 := fun l hl => by
    obtain ⟨i, hi, rfl⟩ := List.mem_iff_getElem.mp hl
    obtain ⟨x, hx, hlo⟩ := hps i (ps[i]'(by omega)) (List.getElem?_eq_getElem (by omega))
    rw [List.getElem?_eq_getElem hi] at hx
    injection hx with hx
    rw [hx]
    exact linkBytes_le hlo (hs.ls x (hx ▸ hl))
  have h1 := linksBytes_le m.links hall
  have h2 := hs.k
  have h3 : (optF 10 m.data).length ≤ 503 := by
    have hd := hs.d
    cases hm : m.data with
    | none => simp [optF]
    | some b =>
      rw [hm] at hd
      have hb : b.length ≤ 500 := hd
      show (fieldB 10 b).length ≤ 503
      have := uv_two (n := b.length) (by omega)
      rw [fieldB_length]
      omega
  rw [nodeBytes, List.length_append]
  omega
/-- The bytes come back in a block of their own. -/
structure Wrote (w : World) (bs : List UInt8) (v : Value) (w' : World) : Prop where
  ex : ∃ g c, v = .slice (some ⟨g, 0, none⟩) bs.length c ∧ bs.length ≤ c ∧ w.heap.size ≤ g ∧ Reads w' w'.heap.size 1 (some ⟨g, 0, none⟩) bs.length (u8s bs)
  below : Below w.heap.size w w'
/-- Bytes and no error come back. -/
structure Marshalled (w : World) (bs : List UInt8) (r : Ending) (w' : World) : Prop where
  ex : ∃ v, r = .returned (.tuple #[v, .nilIface]) ∧ Wrote w bs v w'
theorem put_all (n : Nat) (b : List UInt8) (h : b.length = n) (L : List UInt8) (hl : L.length = n) : put L 0 b = b := by
  unfold put
  rw [List.take_zero, List.nil_append, Nat.zero_add, List.drop_of_length_le (by omega), List.append_nil]
theorem wrote_put {w wx : World} {g n c : Nat} {w0 : Nat} {L S : List UInt8} (h : PutSt w g n L S 0 wx) (hl : L.length = n) (hc : n ≤ c) (hg : w0 ≤ g) (w1 : World) (hw : w1.heap.size = w0) (hb : Below w0 w1 wx) (hS : S.length = n) : Wrote w1 S (.slice (some ⟨g, 0, none⟩) n c) wx := by
  have hblk := h.blk
  rw [put_all n S hS L hl] at hblk
  subst hw
  refine ⟨⟨g, c, by rw [hS], by omega, hg, ?_⟩, hb⟩
  have hr := hblk.reads 0 n (by simp [u8s_length]; omega)
  rw [hS]
  have e : ((u8s S).toArray.toList.drop 0).take n = u8s S := by
    show (u8s S).take n = u8s S
    exact List.take_of_length_le (by rw [u8s_length]; omega)
  rw [e] at hr
  exact hr
theorem made_u8s (N : Nat) : madeCells #[.int .u8 0] N = (u8s (List.replicate N 0)).toArray := by
  apply Array.ext'
  rw [madeCells_one]
  simp [u8s]
set_option maxRecDepth 100000 in
theorem marshal_any (p lo B : Nat) (m : MN) (w : World) (h : NodeObj w lo B p m) (hs : ShortN m) (hB : B ≤ w.heap.size) :
    Calls Tryd.prog 24 #[.pointer (some ⟨p, 0, none⟩)] w (Marshalled w (nodeBytes m)) := by
  have hle := nodeBytes_le h hs
  obtain ⟨N, hN⟩ : ∃ N, (nodeBytes m).length = N := ⟨_, rfl⟩
  have hsz := nodeSize_any p lo B m w h hs
  rw [hN] at hsz hle
  have hmk := run_make_one (P := Tryd.prog) 22 5 (.int .u8 0) 1 Tryd.underlying22 infoU8 rfl N (by omega) (by omega)
  rw [made_u8s] at hmk
  have hbw := below_one w (.cells (u8s (List.replicate N 0)).toArray 5)
  have hput := nodePut_any p lo B w.heap.size N N m (List.replicate N 0) (w.alloc (.cells (u8s (List.replicate N 0)).toArray 5)) (h.below (hbw.mono hB)) hs hB (Blk.new _ _ _) (by simp) (by omega) (Nat.le_refl _) (by omega)
  have HSZ := Lib.hid hsz
  have HPUT := Lib.hid hput
  have HN := Lib.hid hN
  clear hsz hput hN
  go_enter Tryd.func24, Tryd.ntmps24
  go_wp2_with (first | (go_at_call 25; refine HSZ.out.mono ?_; rintro e w' ⟨rfl, rfl⟩) | (go_at_call 34; refine HPUT.out.mono ?_; rintro e w2 ⟨rfl, hst⟩; rw [HN.out, Nat.sub_self] at hst; have HST := Lib.hid hst; clear hst; rw [HN.out]) | fail)
  go_ret2
  exact ⟨⟨_, rfl, wrote_put HST.out (by simp) (Nat.le_refl _) (Nat.le_refl _) w rfl ((below_one _ _).trans HST.out.only) HN.out⟩⟩
end Go.Proofs.YthgbhaackihbjaaDoor
