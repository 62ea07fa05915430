/- The thin package's PbDecoded: bytes of known fields, read as data. -/
import Derived.Test.YthgbhaackihbjaaDoorPnX
import Derived.Test.YthgbhaackihbjaaDoorPnV
namespace Go.Proofs.YthgbhaackihbjaaDoor
open Go.RowKit

section
variable {S : Type} {up : S → Fld → Option S}
theorem fd_inv {J : S → Nat → Prop} (hstep : ∀ st t st' n, J st n → t.val.length ≤ n → 2 ≤ t.size → t.size ≤ n → up st t = some st' → J st' (n - t.size)) : ∀ (f : Nat) (st st' : S) (xs : List UInt8), fd up f st xs = some st' → J st xs.length → ∃ k, J st' k := by
  intro f
  induction f with
  | zero =>
    intro st st' xs h hJ
    obtain rfl := Option.some.inj h
    exact ⟨_, hJ⟩
  | succ f ih =>
    intro st st' xs h hJ
    by_cases hne : xs = []
    · subst hne
      rw [fd_nil] at h
      obtain rfl := Option.some.inj h
      exact ⟨_, hJ⟩
    · cases hp : pt xs with
      | none => simp [fd, hne, hp] at h
      | some t =>
        cases hu : up st t with
        | none => simp [fd, hne, hp, hu] at h
        | some s2 =>
          have h2 : fd up f s2 (xs.drop t.size) = some st' := by simpa [fd, hne, hp, hu] using h
          have hz := pt_size hp
          refine ih s2 st' _ h2 ?_
          rw [List.length_drop]
          exact hstep st t s2 _ hJ (pt_val hp) hz.1 hz.2 hu
end
theorem link_bound {N : Nat} {xs : List UInt8} {lk : PLk} (h : linkOf xs = some lk) (hN : xs.length ≤ N) : lk.hash.length ≤ N := by
  obtain ⟨k, hk⟩ := fd_inv (up := upL) (J := fun st n => st.hash.length ≤ N ∧ n ≤ N) (fun st t st' n hJ hv _ _ hu => by
    unfold upL at hu
    split at hu
    · cases hu
    · split at hu
      · obtain rfl := Option.some.inj hu; exact ⟨Nat.le_trans hv hJ.2, Nat.le_trans (Nat.sub_le _ _) hJ.2⟩
      · split at hu
        · obtain rfl := Option.some.inj hu; exact ⟨hJ.1, Nat.le_trans (Nat.sub_le _ _) hJ.2⟩
        · split at hu
          · obtain rfl := Option.some.inj hu; exact ⟨hJ.1, Nat.le_trans (Nat.sub_le _ _) hJ.2⟩
          · obtain rfl := Option.some.inj hu; exact ⟨hJ.1, Nat.le_trans (Nat.sub_le _ _) hJ.2⟩) _ _ _ _ h ⟨Nat.zero_le _, hN⟩
  exact hk.1
/-- What is bounded in a node that has been read. -/
def NB (N : Nat) (st : PNd) : Prop := st.data.length ≤ N ∧ st.links.length ≤ N ∧ ∀ x ∈ st.links, x.hash.length ≤ N
theorem node_bound {N : Nat} {xs : List UInt8} {st : PNd} (h : nodeOf xs = some st) (hN : xs.length ≤ N) : NB N st := by
  obtain ⟨k, hk⟩ := fd_inv (up := upN) (J := fun st n => st.data.length ≤ N ∧ st.links.length + n ≤ N ∧ ∀ x ∈ st.links, x.hash.length ≤ N) (fun st t st' n hJ hv h2 h3 hu => by
    obtain ⟨j1, j2, j3⟩ := hJ
    unfold upN at hu
    split at hu
    · cases hu
    · split at hu
      · obtain rfl := Option.some.inj hu
        exact ⟨by show t.val.length ≤ N; omega, by show st.links.length + (n - t.size) ≤ N; omega, j3⟩
      · cases hl : linkOf t.val with
        | none => rw [hl] at hu; cases hu
        | some lk =>
          rw [hl] at hu
          obtain rfl := Option.some.inj hu
          refine ⟨j1, by show (st.links ++ [lk]).length + (n - t.size) ≤ N; rw [List.length_append]; show st.links.length + 1 + _ ≤ N; omega, fun x hx => ?_⟩
          rcases List.mem_append.1 hx with hx | hx
          · exact j3 x hx
          · obtain rfl := List.mem_singleton.1 hx
            exact link_bound hl (by omega)) _ _ _ _ h ⟨Nat.zero_le _, by show 0 + xs.length ≤ N; omega, fun x hx => by cases hx⟩
  exact ⟨hk.1, by have := hk.2.1; omega, hk.2.2⟩
theorem LRep.obj {w : World} {b lo : Nat} {st : PLk} {vh vn vs : Value} (h : LRep w b lo st vh vn vs) : LinkObj w 0 w.heap.size b (ml st) := by
  refine ⟨Nat.zero_le _, h.blk.lt, ⟨vh, h.blk.cell 0, ?_⟩, ⟨vn, h.blk.cell 1, ?_⟩, ⟨vs, h.blk.cell 2, ?_⟩, h.blk.cell 3⟩
  · obtain ⟨A, c, rfl, hc, hr⟩ := own_shape h.hash
    by_cases hh : st.hh = true
    · have e : (ml st).hash = some st.hash := by simp [ml, hh]
      rw [e]
      exact ⟨A, c, rfl, own_nonnil h.hash (fun e2 => by have := h.hnil.1 e2; rw [hh] at this; cases this), hc, hr, fun _ _ => Nat.zero_le _⟩
    · have hf : st.hh = false := by simpa using hh
      have e : (ml st).hash = none := by simp [ml, hf]
      have e2 := h.hnil.2 hf
      rw [e, e2]
      exact ⟨none, 0, rfl, rfl, Nat.le_refl _, Reads.none_, fun _ _ => Nat.zero_le _⟩
  · rcases h.nm with ⟨h1, h2, -⟩ | ⟨q, h1, -, h3, h4⟩
    · exact .inl ⟨by simp [ml, h2], h1⟩
    · exact .inr ⟨st.name, q, by simp [ml, h3], Nat.zero_le _, h4.lt, h1, h4.cell 0⟩
  · rcases h.sz with ⟨h1, h2, -⟩ | ⟨q, h1, -, h3, h4⟩
    · exact .inl ⟨by simp [ml, h2], h1⟩
    · exact .inr ⟨st.size, q, by simp [ml, h3], h.ok, Nat.zero_le _, h4.lt, h1, h4.cell 0⟩
theorem NRep.obj {w : World} {b lo : Nat} {st : PNd} {vl vd : Value} {ps : List Nat} (h : NRep w b lo st vl vd ps) : NodeObj w 0 w.heap.size b (mn st) := by
  obtain ⟨A, c, rfl, hc, hr⟩ := own_shape h.row
  refine ⟨Nat.zero_le _, h.blk.lt, ⟨A, ps.length, c, ps, h.blk.cell 0, hc, by show (st.links.map ml).length = _; rw [List.length_map, h.len], hr, fun i q hq => ?_⟩, ⟨vd, h.blk.cell 1, ?_⟩, h.blk.cell 2⟩
  · obtain ⟨l, li, hi, h1, -, -, -, h5, -⟩ := h.ls i q hq
    obtain ⟨vh, vn, vs, h6, -⟩ := h5.ex
    exact ⟨ml l, by show (st.links.map ml)[i]? = _; rw [List.getElem?_map, h1]; rfl, h6.obj⟩
  · obtain ⟨A, c, rfl, hc, hr⟩ := own_shape h.data
    by_cases hh : st.has = true
    · have e : (mn st).data = some st.data := by simp [mn, hh]
      rw [e]
      exact ⟨A, c, rfl, own_nonnil h.data (fun e2 => by have := h.dnil.1 e2; rw [hh] at this; cases this), hc, hr, fun _ _ => Nat.zero_le _⟩
    · have hf : st.has = false := by simpa using hh
      have e : (mn st).data = none := by simp [mn, hf]
      have e2 := h.dnil.2 hf
      rw [e, e2]
      exact ⟨none, 0, rfl, rfl, Nat.le_refl _, Reads.none_, fun _ _ => Nat.zero_le _⟩
theorem own_addr {w : World} {base n c : Nat} {e : TypeId} {size : Nat} {A : Option Addr} {xs : List Value} (h : w.ownsRow base e size (.slice A n c) n xs) : ∀ ad, A = some ad → base ≤ ad.block := by
  intro ad hA
  rcases h.2 with ⟨h1, -⟩ | ⟨g, cap, cur, h1, h2, -⟩
  · injection h1 with h1; rw [h1] at hA; cases hA
  · injection h1 with h1; rw [h1] at hA; obtain rfl := Option.some.inj hA; exact h2
/-- What PbDecoded hands back. -/
structure DeIs (w : World) (R : Option PNd) (e : Ending) (w' : World) : Prop where
  below : Below w.heap.size w w'
  ret : (∃ st A n c A2 n2 c2, R = some st ∧ e = .returned (.tuple #[.agg #[.bool st.has, .slice A n c, .slice A2 n2 c2], .bool true]) ∧ NodeArg w' w'.heap.size (plMN (mn st)) (.agg #[.bool st.has, .slice A n c, .slice A2 n2 c2])) ∨
    (R = none ∧ e = .returned (.tuple #[.agg #[.bool false, .slice none 0 0, .slice none 0 0], .bool false]))
theorem has_mn (st : PNd) : (plMN (mn st)).has = st.has := by cases h : st.has <;> simp [plMN, mn, h]
theorem len_mn {N : Nat} {st : PNd} (h : NB N st) : (optBytes (mn st).data).length ≤ N ∧ (mn st).links.length ≤ N ∧ ∀ x ∈ (mn st).links, (optBytes x.hash).length ≤ N := by
  obtain ⟨h1, h2, h3⟩ := h
  refine ⟨?_, by show (st.links.map ml).length ≤ N; rw [List.length_map]; exact h2, fun x hx => ?_⟩
  · show (optBytes (if st.has then some st.data else none)).length ≤ N
    split
    · exact h1
    · exact Nat.zero_le _
  · obtain ⟨l, hl, rfl⟩ := List.mem_map.1 hx
    show (optBytes (if l.hh then some l.hash else none)).length ≤ N
    split
    · exact h3 l hl
    · exact Nat.zero_le _
set_option maxRecDepth 100000 in
set_option maxHeartbeats 4000000 in
theorem decoded_any (A : Option Addr) (n c B : Nat) (l : List UInt8) (w : World) (a0 a1 a2 : Addr) (hr : Reads w B 1 A n (u8s l)) (hB : B ≤ w.heap.size) (hn2 : n ≤ 1000000) (hkn : OurN l) (he : ErrsM w a0 a1 a2) :
    Calls Tryd.prog 7 #[.slice A n c] w (DeIs w (nodeOf l)) := by
  have hln : l.length = n := by have := hr.1; rw [u8s_length] at this; omega
  have hb2 := below_alloc (below_one w (.cells #[.bool false, .slice none 0 0, .slice none 0 0] 28)) (.cells #[.slice none 0 0, .slice none 0 0, .slice none 0 0, .int .i32 0] 46)
  have HB2 := Lib.hid hb2
  have hx := Blk.new (w.alloc (.cells #[.bool false, .slice none 0 0, .slice none 0 0] 28)) 46 #[.slice none 0 0, .slice none 0 0, .slice none 0 0, .int .i32 0]
  rw [World.size_alloc] at hx
  have HX := Lib.hid hx
  have HR0 := Lib.hid ((Blk.new w 28 #[.bool false, .slice none 0 0, .slice none 0 0]).alloc (.cells #[.slice none 0 0, .slice none 0 0, .slice none 0 0, .int .i32 0] 46))
  have HC := Lib.hid (clone_u8 A n c B (u8s l) _ (hr.below (hb2.mono hB)) (u8s_one l) (by omega) (Nat.le_trans hB hb2.size))
  have HU : Hid (∀ (W : World) (A1 : Option Addr) (c1 : Nat), W.ownsRow (w.heap.size + 2) 5 1 (.slice A1 n c1) n (u8s l) → ErrsM W a0 a1 a2 → Blk W (w.heap.size + 1) 46 #[.slice none 0 0, .slice none 0 0, .slice none 0 0, .int .i32 0] → Calls Tryd.prog 17 #[.pointer (some ⟨w.heap.size + 1, 0, none⟩), .slice A1 n c1] W (UnIs (w.heap.size + 1) (nodeOf l) W)) := fun W A1 c1 ho hE hb => by
    obtain ⟨A', c', e, h1, h2, h3⟩ := own_shape2 ho
    injection e with e1 e2 e3
    subst e1 e3
    exact unmarshalN_any (w.heap.size + 1) A1 n c1 l W a0 a1 a2 h3 (fun ad e => by have := own_addr ho ad e; omega) h1 h2 hn2 hkn hE (by have := he.lt; omega) hb
  have HE := Lib.hid he
  have HNB : Hid (∀ st, nodeOf l = some st → NB 1000000 st) := fun st h => node_bound h (by omega)
  clear hr hln hb2 hx hkn he
  generalize nodeOf l = R at *
  cases R with
  | none =>
    go_enter Tryd.func7, Tryd.ntmps7
    go_wp2_with (first | (go_at_call 18; refine HC.out.mono ?_; clear HC; rintro e w2 ⟨⟨v1, rfl, ho, -⟩, hb⟩; obtain ⟨A1, c1, rfl, -, -⟩ := own_shape ho; have HO := Lib.hid (own_more ho (show w.heap.size + 2 ≤ _ by simp)); have HBA := Lib.hid hb; have HBB := Lib.hid (below_then HB2.out HB2.out.size hb); clear ho hb) | (go_at_call 17; refine (HU.out _ _ _ HO.out (HE.out.below HBB.out HE.out.lt) (HX.out.below HBA.out HX.out.lt)).mono ?_; clear HU; rintro e w3 ⟨hg, ⟨-, a9, rfl⟩ | ⟨_, _, _, _, h, -⟩⟩; rotate_left; (cases h); have HG := Lib.hid hg; have HRZ := Lib.hid ((HR0.out.below HBA.out HR0.out.lt).grown hg (fun e => by injection e with e; omega)); have r0 := HRZ.out.cell 0; have r1 := HRZ.out.cell 1; have r2 := HRZ.out.cell 2; have rf := HRZ.out.frozen; clear hg) | fail)
    (try simp only [Exit.inBlock, Exit.then])
    refine bodyPost_ret (results_cell_then rfl _ _ _ _ _ _ _ rfl (three_set HRZ.out (.bool false) (.slice none 0 0) (.slice none 0 0)) Tryd.underlying28 rfl (by kernel_rfl)) rfl ?_
    exact ⟨three_below (HBB.out.grown HG.out HBB.out.size (fun g e => by injection e with e; omega)) (Nat.le_refl _) _ _ _, .inr ⟨rfl, rfl⟩⟩
  | some st =>
    obtain ⟨l1, l2, l3⟩ := len_mn (HNB.out st rfl)
    have HPN : Hid (∀ W : World, NodeObj W 0 W.heap.size (w.heap.size + 1) (mn st) → Calls Tryd.prog 19 #[.pointer (some ⟨w.heap.size + 1, 0, none⟩)] W (PnIs W (mn st))) := fun W h => plainNode_any h (Nat.le_refl _) l1 l2 l3
    have hh : (mn st).data.isSome = st.has := has_mn st
    have HH := Lib.hid hh
    clear hh
    clear l1 l2 l3 HNB
    go_enter Tryd.func7, Tryd.ntmps7
    go_wp2_with (first | (go_at_call 18; refine HC.out.mono ?_; clear HC; rintro e w2 ⟨⟨v1, rfl, ho, -⟩, hb⟩; obtain ⟨A1, c1, rfl, -, -⟩ := own_shape ho; have HO := Lib.hid (own_more ho (show w.heap.size + 2 ≤ _ by simp)); have HBA := Lib.hid hb; have HBB := Lib.hid (below_then HB2.out HB2.out.size hb); clear ho hb) | (go_at_call 17; refine (HU.out _ _ _ HO.out (HE.out.below HBB.out HE.out.lt) (HX.out.below HBA.out HX.out.lt)).mono ?_; clear HU; rintro e w3 ⟨hg, ⟨h, -⟩ | ⟨st2, vl, vd, ps, h, rfl, hrep⟩⟩; (cases h); obtain rfl := Option.some.inj h; have HG := Lib.hid hg; have HOBJ := Lib.hid hrep.obj; have HRZ := Lib.hid ((HR0.out.below HBA.out HR0.out.lt).grown hg (fun e => by injection e with e; omega)); clear hg hrep h) | (go_at_call 19; refine (HPN.out _ HOBJ.out).mono ?_; clear HPN; rintro e w4 ⟨hb4, A5, n5, c5, A6, n6, c6, vs6, rfl, hown⟩; rw [HH.out]; have HOW := Lib.hid hown; have HB4 := Lib.hid hb4; have HRY := Lib.hid (HRZ.out.below hb4 HRZ.out.lt); have HLT := Lib.hid HRZ.out.lt; have r0 := HRY.out.cell 0; have r1 := HRY.out.cell 1; have r2 := HRY.out.cell 2; have rf := HRY.out.frozen; clear hb4 hown) | fail)
    (try simp only [Exit.inBlock, Exit.then])
    refine bodyPost_ret (results_cell_then rfl _ _ _ _ _ _ _ rfl (three_set HRY.out (.bool st.has) (.slice A5 n5 c5) (.slice A6 n6 c6)) Tryd.underlying28 rfl (by kernel_rfl)) rfl ?_
    refine ⟨three_below (below_then (HBB.out.grown HG.out HBB.out.size (fun g e => by injection e with e; omega)) (Nat.le_of_lt HLT.out) HB4.out) (Nat.le_refl _) _ _ _, .inl ⟨st, A5, n5, c5, A6, n6, c6, rfl, rfl, ?_⟩⟩
    have h := (((HOW.out.far HLT.out 0 (.bool st.has)).far HLT.out 1 (.slice A5 n5 c5)).far HLT.out 2 (.slice A6 n6 c6)).arg
    rw [HH.out] at h
    exact h
end Go.Proofs.YthgbhaackihbjaaDoor
