/- impl.DiffsMerged. -/
import Derived.Test.YtijbdinemjiepaaDoorDfT
namespace Go.Proofs.YtijbdinemjiepaaDoor
open Go.RowKit

theorem reads_two (w : World) (t : TypeId) (a b : Value) : Reads (w.alloc (.cells #[a, b] t)) (w.alloc (.cells #[a, b] t)).heap.size 1 (some ⟨w.heap.size, 0, none⟩) 2 [a, b] :=
  (Blk.new w t #[a, b]).reads 0 2 (Nat.le_refl _)
/-- slices.Concat of two rows of changes. -/
theorem cat2D {A1 A2 : Option Addr} {n1 n2 c1 c2 : Nat} {xs1 xs2 : List Value} {W : World} (h1 : Reads W W.heap.size 4 A1 n1 xs1) (h2 : Reads W W.heap.size 4 A2 n2 xs2) (k1 : n1 ≤ c1) (k2 : n2 ≤ c2) (o1 : ∀ u ∈ xs1, u.oneCell' = true) (o2 : ∀ u ∈ xs2, u.oneCell' = true) (hn : n1 + n2 ≤ 1000000) :
    Calls Tryd.prog 26 #[.slice (some ⟨W.heap.size, 0, none⟩) 2 2] (W.alloc (.cells #[.slice A1 n1 c1, .slice A2 n2 c2] 24)) (Owns (W.alloc (.cells #[.slice A1 n1 c1, .slice A2 n2 c2] 24)) 32 4 (n1 + n2) (xs1 ++ xs2)) := by
  have h := concatDf (some ⟨W.heap.size, 0, none⟩) 2 2 _ (n1 + n2) _ [(n1, xs1), (n2, xs2)] _ (reads_two W 24 (.slice A1 n1 c1) (.slice A2 n2 c2)) (((RowsV.nil _ _ _).cons (h2.on (below_one W _)) k2 o2).cons (h1.on (below_one W _)) k1 o1) (by simp) (Nat.le_refl _) (by omega) hn
  simpa using h
/-- slices.Concat of two rows of pointers. -/
theorem cat2P {A1 A2 : Option Addr} {n1 n2 c1 c2 : Nat} {gs1 gs2 : List Nat} {W : World} (h1 : Reads W W.heap.size 1 A1 n1 (ptrs gs1)) (h2 : Reads W W.heap.size 1 A2 n2 (ptrs gs2)) (k1 : n1 ≤ c1) (k2 : n2 ≤ c2) (hn : n1 + n2 ≤ 1000000) :
    Calls Tryd.prog 28 #[.slice (some ⟨W.heap.size, 0, none⟩) 2 2] (W.alloc (.cells #[.slice A1 n1 c1, .slice A2 n2 c2] 66)) (Owns (W.alloc (.cells #[.slice A1 n1 c1, .slice A2 n2 c2] 66)) 69 1 (n1 + n2) (ptrs (gs1 ++ gs2))) := by
  have h := concatPc (some ⟨W.heap.size, 0, none⟩) 2 2 _ (n1 + n2) _ [(n1, ptrs gs1), (n2, ptrs gs2)] _ (reads_two W 66 (.slice A1 n1 c1) (.slice A2 n2 c2)) (((RowsV.nil _ _ _).cons (h2.on (below_one W _)) k2 (ptrs_one _)).cons (h1.on (below_one W _)) k1 (ptrs_one _)) (by simp) (Nat.le_refl _) (by omega) hn
  rw [ptrs_append]
  simpa using h
/-- What was given, in its box. -/
def Giv (W : World) (bg : Nat) (ds : List Dif) : Prop := ∃ A n c xs, W.cell? ⟨bg, 0, none⟩ = some (.slice A n c) ∧ Reads W W.heap.size 4 A n xs ∧ DRow W none ds xs
theorem Giv.below {w w' : World} {bg : Nat} {ds : List Dif} (h : Giv w bg ds) (hb : Below w.heap.size w w') : Giv w' bg ds := by
  obtain ⟨A, n, c, xs, h1, h2, h3⟩ := h
  exact ⟨A, n, c, xs, cell_later hb h1, h2.on hb, h3.below hb⟩
structure Psl (W : World) (A : Option Addr) (n lo : Nat) (gs : List Nat) (ds : List Dif) : Prop where
  rd : Reads W W.heap.size 1 A n (ptrs gs)
  row : PRow W none lo gs ds
theorem Psl.below {w w' : World} {A : Option Addr} {n lo : Nat} {gs : List Nat} {ds : List Dif} (h : Psl w A n lo gs ds) (hb : Below w.heap.size w w') : Psl w' A n lo gs ds := ⟨h.rd.on hb, h.row.below hb⟩
def All (W : World) (ba : Nat) (gs : List Nat) : Prop := ∃ A n c, W.cell? ⟨ba, 0, none⟩ = some (.slice A n c) ∧ Reads W W.heap.size 1 A n (ptrs gs) ∧ n ≤ 200000
theorem All.below {w w' : World} {ba : Nat} {gs : List Nat} (h : All w ba gs) (hb : Below w.heap.size w w') : All w' ba gs := by
  obtain ⟨A, n, c, h1, h2, h3⟩ := h
  exact ⟨A, n, c, cell_later hb h1, h2.on hb, h3⟩
theorem giv_new {w0 w : World} {A : Option Addr} {n c : Nat} {xs : List Value} {ds : List Dif} {t : TypeId} (hr : Reads w w.heap.size 4 A n xs) (hd : DRow w0 none ds xs) (hb : Below w0.heap.size w0 w) : Giv (w.alloc (.cells #[.slice A n c] t)) w.heap.size ds :=
  ⟨A, n, c, xs, (Blk.new w t #[.slice A n c]).cell 0, hr.on (below_one w _), (hd.below hb).below (below_one w _)⟩
theorem all_new {w : World} {A : Option Addr} {n c : Nat} {gs : List Nat} {t : TypeId} (hr : Reads w w.heap.size 1 A n (ptrs gs)) (hn : n ≤ 200000) : All (w.alloc (.cells #[.slice A n c] t)) w.heap.size gs :=
  ⟨A, n, c, (Blk.new w t #[.slice A n c]).cell 0, hr.on (below_one w _), hn⟩
/-- The pieces from which MergeDiffs goes on. -/
theorem pieces {W : World} {A3 A4 : Option Addr} {n1 n2 lo mid : Nat} {gs1 gs2 : List Nat} {ds1 ds2 : List Dif} (h1 : Psl W A3 n1 lo gs1 ds1) (h2 : Psl W A4 n2 mid gs2 ds2) (hm : ∀ g ∈ gs1, g < mid) (hp : ∀ d ∈ ds1 ++ ds2, d.path.size ≤ 1000) :
    ∃ v : Nat → Dif, gs1.map v = ds1 ∧ gs2.map v = ds2 ∧ PRow W none 0 (gs1 ++ gs2) ((gs1 ++ gs2).map v) ∧ ∀ W', Below W.heap.size W W' → ∀ g, g ∈ gs1 ∨ g ∈ gs2 → W'.cell? ⟨g, 1, none⟩ = some (.string (v g).path) ∧ (v g).path.size ≤ 1000 := by
  have hrow := h1.row.append h2.row hm
  obtain ⟨v, hv⟩ := exists_val (gs1 ++ gs2) (ds1 ++ ds2) hrow.dist hrow.len ⟨⟨0, ⟨#[]⟩, 0, 0⟩⟩
  have hs := hv
  rw [List.map_append] at hs
  obtain ⟨e1, e2⟩ := List.append_inj hs (by rw [List.length_map]; exact h1.row.len)
  refine ⟨v, e1, e2, by rw [hv]; exact hrow, fun W' hW g hg => ?_⟩
  have hg' : g ∈ gs1 ++ gs2 := List.mem_append.2 hg
  obtain ⟨i, hi, rfl⟩ := List.mem_iff_getElem.1 hg'
  have hd : (ds1 ++ ds2)[i]? = some (v (gs1 ++ gs2)[i]) := by rw [← hv, List.getElem?_map, List.getElem?_eq_getElem hi]; rfl
  obtain ⟨_, hl, _, ⟨x, y, hb⟩⟩ := hrow.at_ i _ _ (List.getElem?_eq_getElem hi) hd
  exact ⟨(hW.cell (p := ⟨_, 1, none⟩) hl).trans (hb.cell 1), hp _ (List.mem_of_getElem? hd)⟩
theorem mem_val {gs : List Nat} {g : Nat} (h : g ∈ gs) (v : Nat → Dif) : ∃ i : Nat, gs[i]? = some g ∧ (gs.map v)[i]? = some (v g) := by
  obtain ⟨i, hi, rfl⟩ := List.mem_iff_getElem.1 h
  exact ⟨i, List.getElem?_eq_getElem hi, by rw [List.getElem?_map, List.getElem?_eq_getElem hi]; rfl⟩
theorem pairsP_at : ∀ (l : List (Nat × Nat)) (j : Nat) (q : Nat × Nat), l[j]? = some q → (pairsP l)[j * 2]? = some (.pointer (some ⟨q.1, 0, none⟩)) ∧ (pairsP l)[j * 2 + 1]? = some (.pointer (some ⟨q.2, 0, none⟩))
  | [], _, _, h => by simp at h
  | p :: t, 0, q, h => by
    have h : p = q := by simpa using h
    subst h
    exact ⟨rfl, rfl⟩
  | p :: t, j + 1, q, h => by
    have h2 := pairsP_at t j q (by simpa using h)
    have e : pairsP (p :: t) = [.pointer (some ⟨p.1, 0, none⟩), .pointer (some ⟨p.2, 0, none⟩)] ++ pairsP t := rfl
    rw [e, List.getElem?_append_right (by simp; omega), List.getElem?_append_right (by simp; omega)]
    have s1 : (j + 1) * 2 - 2 = j * 2 := by omega
    have s2 : (j + 1) * 2 + 1 - 2 = j * 2 + 1 := by omega
    simp only [List.length_cons, List.length_nil, s1, s2]
    exact h2
theorem step_append_row {P : Program} (w : World) {ops : Array Oper} {o : Oper} {a : Act} {K : Act → World → Prop} {Q : Exit → Act → World → Prop} {E : Prop} (hgd : o.guard = none) (s x : Operand) (t : TypeId)
    (ho : o.op = .call { callee := .builtin .append, args := #[s, x], argTypes := #[t, t] })
    (base : Nat) (e : TypeId) (i : TypeInfo) (z : Value) (size bytes : Nat) (ht : P.underlying t = some (.slice e)) (hi : P.info? e = some i) (hz : i.zero = some z)
    (hsize : i.size = size) (hby : i.bytes = bytes) (hzs : z.cells.size = size) (hsz : 0 < size)
    (v : Value) (n : Nat) (xs : List Value) (hs : a.eval s = v) (hown : w.ownsRow base e size v n xs)
    (B : Nat) (A : Option Addr) (m c : Nat) (news : List Value) (hx : a.eval x = .slice A m c) (hr : Reads w B size A m news) (h1 : ∀ u ∈ news, u.oneCell' = true)
    (h63 : n + m ≤ maxLen) (hbytes : (n + m) * bytes ≤ 140737488355328) (hbase : base ≤ w.heap.size)
    (h : ∀ v' w', w'.ownsRow base e size v' (n + m) (xs ++ news) → w.grownBy w' v.ownBlock → (v'.ownBlock = v.ownBlock ∨ v'.ownBlock = some w.heap.size) → K (a.put o.dst v') w') :
    if Region.wanted o (yielded ops a.tmps) = true then Oper.wp P o a w K Q else E := by
  have hw : Region.wanted o (yielded ops a.tmps) = true := by simp [Region.wanted, hgd]
  rw [if_pos hw]
  obtain ⟨v', w', hrun, h2, h3, h4, h5⟩ := run_append_any (P := P) w base t o.type e i z size bytes ht hi hz hsize hby hzs hsz v n xs hown B A m c news hr h1 h63 hbytes hbase
  unfold Oper.wp execOp
  simp only [ho, resolve, invoke, builtin, Sem.run_bind, Sem.run_pure, Result.andThen_ok, List.map_toArray, List.map_cons, List.map_nil, hs, hx, hrun]
  exact h v' w' h2 h3 h4
theorem undrew {w w' : World} (h : Below w.drew.heap.size w.drew w') : Below w.heap.size w w' := below_then (below_drewN (Below.refl w.heap.size w) 1) (Nat.le_refl _) h
theorem info8 : (Tryd.prog.info? 35).map (fun i => (i.zero, i.size, i.bytes)) = some (some (.agg #[.int .i64 0, .string ByteArray.empty, .slice none 0 0, .slice none 0 0, .int .i64 0, .string ByteArray.empty, .slice none 0 0, .slice none 0 0]), 8, 144) := by kernel_rfl
theorem lit8 (w : World) (t : TypeId) (a b c d a' b' c' d' : Value) : Reads (w.alloc (.cells #[a, b, c, d, a', b', c', d'] t)) (w.heap.size + 1) 8 (some ⟨w.heap.size, 0, none⟩) 1 [a, b, c, d, a', b', c', d'] :=
  ⟨rfl, fun _ => (reads_lit w t [a, b, c, d, a', b', c', d']).2 (show 0 < 8 by omega)⟩
theorem drow_app2 {W w3 : World} {g g' : Option Nat} {d e : Dif} {v u : List Value} {ds : List Dif} {xs : List Value} (hd : DRow W g ds xs) (hv : DIn W g d v) (hu : DIn W g e u) (hg : W.grownBy w3 g) (hat : g' = g ∨ g' = some W.heap.size) : DRow w3 g' (ds ++ [d, e]) (xs ++ (v ++ u)) := by
  have h1 : DRow W g (ds ++ [d]) (xs ++ v) := DRow.snoc hv hd
  have h2 : DRow w3 g' ((ds ++ [d]) ++ [e]) ((xs ++ v) ++ u) := drow_app h1 hu hg hat
  rw [List.append_assoc, List.append_assoc] at h2
  exact h2
set_option maxRecDepth 100000 in
set_option maxHeartbeats 4000000 in
theorem diffsMerged_any (A1 A2 : Option Addr) (n1 n2 c1 c2 : Nat) (ds1 ds2 : List Dif) (xs1 xs2 : List Value) (w : World) (h1 : Reads w w.heap.size 4 A1 n1 xs1) (h2 : Reads w w.heap.size 4 A2 n2 xs2) (d1 : DRow w none ds1 xs1) (d2 : DRow w none ds2 xs2) (k1 : n1 ≤ c1) (k2 : n2 ≤ c2) (hn1 : n1 ≤ 1000) (hn2 : n2 ≤ 1000) (hp : ∀ d ∈ ds1 ++ ds2, d.path.size ≤ 1000) :
    Calls Tryd.prog 7 #[.slice A1 n1 c1, .slice A2 n2 c2] w fun e w' => ∃ v1 v2 ys1 ys2, e = .returned (.tuple #[v1, v2]) ∧
      (w'.ownsRow w.heap.size 32 4 v1 (specM Dif.path ds1 ds2).1.length ys1 ∧ DRow w' v1.ownBlock (specM Dif.path ds1 ds2).1 ys1) ∧
      (w'.ownsRow w.heap.size 35 8 v2 (specM Dif.path ds1 ds2).2.length ys2 ∧ DRow w' v2.ownBlock (flatP (specM Dif.path ds1 ds2).2) ys2) ∧ Below w.heap.size w w' := by
  have CAT1 := Lib.hid (cat2D (c1 := c1) (c2 := c2) h1 h2 k1 k2 d1.one d2.one (by omega))
  have ICH1 := Lib.hid (fun W (hW : Below w.heap.size w W) => ichanges_any A1 n1 c1 _ ds1 xs1 none W (h1.on hW) (Nat.le_refl _) (d1.below hW) (by omega))
  have ICH2 := Lib.hid (fun W (hW : Below w.heap.size w W) => ichanges_any A2 n2 c2 _ ds2 xs2 none W (h2.on hW) (Nat.le_refl _) (d2.below hW) (by omega))
  have HD := Lib.hid (d1.append d2)
  have HP := Lib.hid hp
  clear h1 h2 d1 d2 hp
  go_enter Tryd.func7, Tryd.ntmps7
  go_wp2_with (first
    | (go_at_call 26; (with_reducible refine CAT1.out.mono ?_); clear CAT1; rintro e w1 ⟨⟨v, rfl, ho⟩, hb⟩; obtain ⟨Ag, cg, rfl, hcg, hrg⟩ := own_shape ho; have HB1 := Lib.hid (below_alloc (below_then (below_one w _) (by simp) hb) (.cells #[.slice Ag (n1 + n2) cg] 24)); have GIV := Lib.hid (giv_new (c := cg) (t := 24) hrg HD.out (below_then (below_one w _) (by simp) hb)); clear ho hb hrg HD)
    | (go_at_call_of 27 (Value.slice A1 n1 c1); (with_reducible refine (ICH1.out _ HB1.out).mono ?_); clear ICH1; rintro e w2 ⟨v, gs1, rfl, ho, hp, hb⟩; obtain ⟨A3, c3, rfl, hc3, hr3⟩ := own_shape ho; have PS1 : Hid (Psl w2 A3 n1 _ gs1 ds1) := Lib.hid ⟨hr3, hp.fresh none nofun⟩; have hg := GIV.out.below hb; have hB := below_then HB1.out HB1.out.size hb; clear GIV HB1 ho hp hr3 hb; have GIV := Lib.hid hg; have HB1 := Lib.hid hB; clear hg hB)
    | (go_at_call_of 27 (Value.slice A2 n2 c2); (with_reducible refine (ICH2.out _ HB1.out).mono ?_); clear ICH2; rintro e w3 ⟨v, gs2, rfl, ho, hp, hb⟩; obtain ⟨A4, c4, rfl, hc4, hr4⟩ := own_shape ho; have PS2 : Hid (Psl w3 A4 n2 _ gs2 ds2) := Lib.hid ⟨hr4, hp.fresh none nofun⟩; have MID : Hid (∀ g ∈ gs1, g < w2.heap.size) := Lib.hid (fun g hg => (PS1.out.row.mem hg).2.1); have hs1 := PS1.out.below hb; have hg := GIV.out.below hb; have hB := below_then HB1.out HB1.out.size hb; clear GIV HB1 PS1 ho hp hr4 hb; have GIV := Lib.hid hg; have HB1 := Lib.hid hB; have PS1 := Lib.hid hs1; clear hg hB hs1)
    | (go_at_call 28; (with_reducible refine (cat2P PS1.out.rd PS2.out.rd hc3 hc4 (by omega)).mono ?_); rintro e w4 ⟨⟨v, rfl, ho⟩, hb⟩; obtain ⟨Aa, ca, rfl, hca, hra⟩ := own_shape ho; have hb0 := below_alloc (below_then (below_one w3 _) (by simp) hb) (.cells #[.slice Aa (n1 + n2) ca] 66); have hs1 := PS1.out.below hb0; have hs2 := PS2.out.below hb0; have hg := GIV.out.below hb0; have hB := below_then HB1.out HB1.out.size hb0; obtain ⟨vv, hv1, hv2, hrow, hcell⟩ := pieces hs1 hs2 MID.out HP.out; have HV1 := Lib.hid hv1; have HV2 := Lib.hid hv2; have HROW := Lib.hid hrow; have ALL := Lib.hid (all_new (c := ca) (t := 66) hra (by omega)); obtain ⟨L, C, hLC⟩ : ∃ L C, implM (fun g => (vv g).path) gs1 gs2 = (L, C) := ⟨_, _, rfl⟩; have mrg := merge_any (fun g => (vv g).path) A3 A4 n1 n2 c3 c4 _ _ gs1 gs2 _ hs1.rd hs2.rd (Nat.le_refl _) (Nat.le_refl _) (hcell _ (Below.refl _ _)) (by omega) (by omega); have him := implM_mem (fun g => (vv g).path) gs1 gs2; rw [hLC] at mrg him; obtain ⟨hm1, hm2, hl1, hl2⟩ := him; have hz1 : gs1.length = n1 := (by have := hs1.rd.1; rw [ptrs_length] at this; omega); have hz2 : gs2.length = n2 := (by have := hs2.rd.1; rw [ptrs_length] at this; omega); have LN : L.length ≤ 2000 := (by rw [hz1, hz2] at hl1; exact Nat.le_trans hl1 (by omega)); have CN : C.length ≤ 2000 := (by rw [hz1] at hl2; exact Nat.le_trans hl2 (by omega)); have LAW : Hid (specM Dif.path ds1 ds2 = (L.map vv, C.map (pairM vv))) := Lib.hid (by rw [← hv1, ← hv2, merge_law, hLC]); have HM1 := Lib.hid hm1; have HM2 := Lib.hid hm2; have MRG := Lib.hid mrg; clear mrg hLC hm1 hm2 hl1 hl2 hz1 hz2; clear GIV HB1 PS1 PS2 ho hb0 hs1 hs2 hv1 hv2 hrow hcell hra hb; have GIV := Lib.hid hg; have HB1 := Lib.hid hB; clear hg hB)
    | (go_at_call 31; (with_reducible refine MRG.out.mono ?_); clear MRG; rintro e w5 ⟨v1, v2, rfl, ho1, ho2, hb⟩; have ENV : Hid (Env w5 w4.heap.size w1.heap.size (gs1 ++ gs2) ((gs1 ++ gs2).map vv)) := Lib.hid ⟨ALL.out.below hb, by rw [List.map_append, HV1.out, HV2.out]; exact GIV.out.below hb, HROW.out.below hb⟩; have hB := below_then HB1.out HB1.out.size hb; obtain ⟨A5, c5, rfl, -, hr5⟩ := own_shape ho1; obtain ⟨A6, c6, rfl, -, hr6⟩ := own_shape ho2; have R5 := Lib.hid hr5; have R6 := Lib.hid hr6; clear HB1 GIV ALL HROW ho1 ho2 hb hr5 hr6; have HB1 := Lib.hid hB; clear hB)
    | fail)
  obtain ⟨i0, hi, hz0, hz1, hz2⟩ := info_parts infoDiff
  obtain ⟨i8, hi8, hy0, hy1, hy2⟩ := info_parts info8
  go_loopw [13, 40] (fun sv si wr => ∃ (j : Nat) (xs : List Value), j ≤ L.length ∧ si = .int .i64 j ∧ Hid (wr.ownsRow w5.heap.size 32 4 sv j xs) ∧ Hid (DRow wr sv.ownBlock ((L.take j).map vv) xs) ∧ Hid (Below w5.heap.size w5 wr)) (fun _ si _ => L.length - (intOf si).toNat)
  case atStart => exact ⟨0, [], Nat.zero_le _, rfl, World.ownsRow_nil _ _ _ _, rfl, Below.refl _ _⟩
  case round =>
    obtain ⟨j, xs, hj, rfl, HO, HD, HW⟩ := hrel
    by_cases hlt : j < L.length
    · obtain ⟨b, o, rfl, hbB, hat⟩ := (R5.out.below HW.out).lit hlt
      obtain ⟨g, hg, htk⟩ : ∃ g, L[j]? = some g ∧ L.take (j + 1) = L.take j ++ [g] := ⟨_, List.getElem?_eq_getElem hlt, List.take_succ_eq_append_getElem hlt⟩
      have q0 := hat j _ (ptrs_at _ _ _ hg)
      obtain ⟨i, hi1, hi2⟩ := mem_val (HM1.out g (List.mem_of_getElem? hg)) vv
      have PL := Lib.hid (fun W (hW : Below w5.heap.size w5 W) => plain_any _ _ _ _ i g (vv g) W (ENV.out.below hW) hi1 hi2)
      have HTK := Lib.hid htk
      have g1 : (j : Int) < (L.length : Int) := by omega
      have hsz := HW.out.size
      clear hat hg htk hi1 hi2
      go_wp2_with (first
        | (go_at_call 29; (with_reducible refine (PL.out _ HW.out).mono ?_); clear PL; rintro e w6 ⟨v6, rfl, hd, hb⟩; have HDI := Lib.hid (hd.inn (g := u13.ownBlock) (own_lt HO.out)); obtain ⟨E1, f1, E2, f2, rfl, -⟩ := hd; have HO1 := Lib.hid (own_below HO.out hb); have HD1 := Lib.hid (HD.out.below hb); have HW1 := Lib.hid (bel_next hb HW.out); clear hb)
        | (at_builtin; refine wpList_append_any _ rfl (.tmp 44) (.tmp 48) 24 rfl w5.heap.size 32 i0 _ 4 72 Tryd.underlying24 hi hz0 hz1 hz2 rfl (by decide) u13 j xs rfl (HO1.out.alloc _) (w6.heap.size + 1) (some ⟨w6.heap.size, 0, none⟩) 1 1 _ rfl (lit4 w6 _ _ _ _ _) (by intro u hu; simp at hu; rcases hu with rfl | rfl | rfl | rfl <;> rfl) (by unfold maxLen; omega) (by omega) (by have := HW1.out.size; simp; omega) ?_; rintro v3 w7 hown3 hg3 hat3 -; have HO3 := Lib.hid hown3; have HD3 := Lib.hid (drow_app (HD1.out.below (below_one w6 _)) (HDI.out.below (below_one w6 _)) hg3 hat3); have HW3 := Lib.hid ((below_alloc HW1.out _).grown hg3 (by have := HW1.out.size; simp; omega) (fun k hk => own_base HO.out k hk)); clear hown3 hg3 hat3)
        | fail)
      go_roundw
      case rel => exact ⟨j + 1, _, by omega, by go_num, HO3.out, by show DRow _ _ _ _; rw [HTK.out, List.map_append]; exact HD3.out, HW3.out⟩
      case measure => simp [intOf]; omega
    · have hjn : j = L.length := by omega
      have g1 : ¬ (j : Int) < (L.length : Int) := by omega
      have HF : Hid (DRow wr u13.ownBlock (L.map vv) xs) := by show DRow _ _ _ _; have h := HD.out; rw [List.take_of_length_le (by omega)] at h; exact h
      clear HD
      subst hjn
      obtain ⟨wA, hwA⟩ : ∃ x, x = wr := ⟨wr, rfl⟩
      subst hwA
      have HWA := HW
      have HOA := HO
      clear HW HO
      go_wp2
      go_loopw [16, 53] (fun sv si wr => ∃ (j : Nat) (ys : List Value), j ≤ C.length ∧ si = .int .i64 j ∧ Hid (wr.ownsRow wA.heap.size 35 8 sv j ys) ∧ Hid (DRow wr sv.ownBlock (flatP ((C.take j).map (pairM vv))) ys) ∧ Hid (Below wA.heap.size wA wr)) (fun _ si _ => C.length - (intOf si).toNat)
      case atStart => exact ⟨0, [], Nat.zero_le _, rfl, World.ownsRow_nil _ _ _ _, rfl, Below.refl _ _⟩
      case round =>
        obtain ⟨j2, ys, hj2, rfl, HO, HD, HW⟩ := hrel
        by_cases hlt2 : j2 < C.length
        · obtain ⟨b, o, rfl, hbB, hat⟩ := (((R6.out.below HWA.out).more HWA.out.size).below HW.out).litN (by omega) (by omega)
          obtain ⟨⟨ga, gb⟩, hg, htk⟩ : ∃ q, C[j2]? = some q ∧ C.take (j2 + 1) = C.take j2 ++ [q] := ⟨_, List.getElem?_eq_getElem hlt2, List.take_succ_eq_append_getElem hlt2⟩
          obtain ⟨q0, q1⟩ := pairsP_at C j2 _ hg
          have q0 := hat _ _ q0
          have q1 := hat _ _ q1
          have q1 : wr.cell? ⟨b, o + j2 * 2 + 1, none⟩ = some (.pointer (some ⟨gb, 0, none⟩)) := by rw [Nat.add_assoc]; exact q1
          obtain ⟨ma, mb⟩ := HM2.out _ (List.mem_of_getElem? hg)
          obtain ⟨i, hi1, hi2⟩ := mem_val ma vv
          obtain ⟨i', hi1', hi2'⟩ := mem_val mb vv
          have hww := HWA.out.size
          have PL1 := Lib.hid (fun W (hW : Below wA.heap.size wA W) => plain_any _ _ _ _ i ga (vv ga) W (ENV.out.below (below_then HWA.out hww hW)) hi1 hi2)
          have PL2 := Lib.hid (fun W (hW : Below wA.heap.size wA W) => plain_any _ _ _ _ i' gb (vv gb) W (ENV.out.below (below_then HWA.out hww hW)) hi1' hi2')
          have HTK := Lib.hid htk
          have g1 : (j2 : Int) < (C.length : Int) := by omega
          have hsz := HW.out.size
          simp only at q0
          have HOB := Lib.hid (HO.out.alloc (.cells #[.pointer (some ⟨ga, 0, none⟩), .pointer (some ⟨gb, 0, none⟩)] 81))
          have HDB := Lib.hid (HD.out.below (below_one wr (.cells #[.pointer (some ⟨ga, 0, none⟩), .pointer (some ⟨gb, 0, none⟩)] 81)))
          have HBL := Lib.hid (Blk.new wr 81 #[.pointer (some ⟨ga, 0, none⟩), .pointer (some ⟨gb, 0, none⟩)])
          have HWB := Lib.hid (below_alloc HW.out (.cells #[.pointer (some ⟨ga, 0, none⟩), .pointer (some ⟨gb, 0, none⟩)] 81))
          have HLT : Hid (∀ n : Nat, wr.heap.size < n → ∀ k, u16.ownBlock = some k → k < n) := Lib.hid (fun n hn k hk => Nat.lt_trans (HO.out.lt k hk).2 hn)
          clear hat hg htk hi1 hi2 hi1' hi2' ma mb hbB
          have NE : Hid (some wr.heap.size ≠ u16.ownBlock) := Lib.hid (fun e => by have := (HO.out.lt _ e.symm).2; omega)
          have k0 := HBL.out.cell 0
          have k1 := HBL.out.cell 1
          go_wp2_with fail
          go_region_held3 (fun w' => w'.cell? ⟨wr.heap.size, 0, none⟩ = some (.pointer (some ⟨ga, 0, none⟩)) ∧ w'.cell? ⟨wr.heap.size, 1, none⟩ = some (.pointer (some ⟨gb, 0, none⟩))) (first | (with_reducible exact ⟨k0, k1⟩) | (exact ⟨k0, k1⟩) | (exact ⟨cell_alloc k0 _, cell_alloc k1 _⟩)) (first | (go_at_call_of 29 (Value.pointer (some ⟨ga, 0, none⟩)); (first | (with_reducible refine (PL1.out _ HWB.out).mono ?_) | (with_reducible refine (PL1.out _ HWB.out.drew).mono ?_)); clear PL1; rintro e wc1 ⟨vc1, rfl, hd, hb⟩; have HDI1 := Lib.hid (hd.inn (g := u16.ownBlock) (by first | with_reducible exact HLT.out _ HBL.out.lt | with_reducible exact HLT.out _ HBL.out.drew.lt)); obtain ⟨E1, f1, F1, h1, rfl, -⟩ := hd; have ho := Lib.hid (by first | with_reducible exact own_below HOB.out hb | with_reducible exact own_below HOB.out (undrew hb)); have hdd := Lib.hid (by first | with_reducible exact HDB.out.below hb | with_reducible exact HDB.out.below (undrew hb)); have hbl := Lib.hid (by first | with_reducible exact blk_next hb HBL.out | with_reducible exact blk_next (undrew hb) HBL.out); have hw := Lib.hid (by first | with_reducible exact bel_next hb HWB.out | with_reducible exact bel_next (undrew hb) HWB.out); (try (have hx := Lib.hid (HDI2.out.below hb); clear HDI2; have HDI2 := hx; clear hx)); clear HOB HDB HBL HWB hb k0 k1; have HOB := ho; have HDB := hdd; have HBL := hbl; have HWB := hw; clear ho hdd hbl hw; have k0 : wc1.cell? ⟨wr.heap.size, 0, none⟩ = some (.pointer (some ⟨ga, 0, none⟩)) := HBL.out.cell 0; have k1 : wc1.cell? ⟨wr.heap.size, 1, none⟩ = some (.pointer (some ⟨gb, 0, none⟩)) := HBL.out.cell 1) | (go_at_call_of 29 (Value.pointer (some ⟨gb, 0, none⟩)); (first | (with_reducible refine (PL2.out _ HWB.out).mono ?_) | (with_reducible refine (PL2.out _ HWB.out.drew).mono ?_)); clear PL2; rintro e wc2 ⟨vc2, rfl, hd, hb⟩; have HDI2 := Lib.hid (hd.inn (g := u16.ownBlock) (by first | with_reducible exact HLT.out _ HBL.out.lt | with_reducible exact HLT.out _ HBL.out.drew.lt)); obtain ⟨E2, f2, F2, h2, rfl, -⟩ := hd; have ho := Lib.hid (by first | with_reducible exact own_below HOB.out hb | with_reducible exact own_below HOB.out (undrew hb)); have hdd := Lib.hid (by first | with_reducible exact HDB.out.below hb | with_reducible exact HDB.out.below (undrew hb)); have hbl := Lib.hid (by first | with_reducible exact blk_next hb HBL.out | with_reducible exact blk_next (undrew hb) HBL.out); have hw := Lib.hid (by first | with_reducible exact bel_next hb HWB.out | with_reducible exact bel_next (undrew hb) HWB.out); (try (have hx := Lib.hid (HDI1.out.below hb); clear HDI1; have HDI1 := hx; clear hx)); clear HOB HDB HBL HWB hb k0 k1; have HOB := ho; have HDB := hdd; have HBL := hbl; have HWB := hw; clear ho hdd hbl hw; have k0 : wc2.cell? ⟨wr.heap.size, 0, none⟩ = some (.pointer (some ⟨ga, 0, none⟩)) := HBL.out.cell 0; have k1 : wc2.cell? ⟨wr.heap.size, 1, none⟩ = some (.pointer (some ⟨gb, 0, none⟩)) := HBL.out.cell 1) | (refine step_append_row _ rfl (.tmp 57) (.tmp 67) 25 (by rfl) wA.heap.size 35 i8 _ 8 144 Tryd.underlying25 hi8 hy0 hy1 hy2 rfl (by decide) u16 j2 ys (by rfl) (HOB.out.alloc _) _ _ 1 1 _ (by rfl) (lit8 _ _ _ _ _ _ _ _ _ _) (by intro u hu; simp at hu; rcases hu with rfl | rfl | rfl | rfl | rfl | rfl | rfl | rfl <;> rfl) (by unfold maxLen; omega) (by omega) (by have := HWB.out.size; simp; omega) ?_; intro v3 w8 hown3 hg3 hat3; have HO3 := Lib.hid hown3; have HD3 := Lib.hid (drow_app2 (HDB.out.below (below_one _ _)) (HDI1.out.below (below_one _ _)) (HDI2.out.below (below_one _ _)) hg3 hat3); have HW3 := Lib.hid ((below_alloc HWB.out _).grown hg3 (by have := HWB.out.size; simp; omega) (fun k hk => own_base HOB.out k hk)); have hbl3 := (HBL.out.alloc _).grown hg3 NE.out; clear k0 k1; have k0 : w8.cell? ⟨wr.heap.size, 0, none⟩ = some (.pointer (some ⟨ga, 0, none⟩)) := hbl3.cell 0; have k1 : w8.cell? ⟨wr.heap.size, 1, none⟩ = some (.pointer (some ⟨gb, 0, none⟩)) := hbl3.cell 1; clear hown3 hg3 hat3 hbl3) | fail)
          all_goals
            go_wp2
            go_roundw
            case rel => exact ⟨j2 + 1, _, by omega, by go_num, HO3.out, by show DRow _ _ _ _; rw [HTK.out, List.map_append, List.map_cons, List.map_nil, flatP_snoc]; exact HD3.out, HW3.out⟩
            case measure => simp [intOf]; omega
        · have hjn2 : j2 = C.length := by omega
          have g1 : ¬ (j2 : Int) < (C.length : Int) := by omega
          have HF2 : Hid (DRow wr u16.ownBlock (flatP (C.map (pairM vv))) ys) := by show DRow _ _ _ _; have h := HD.out; rw [List.take_of_length_le (by omega)] at h; exact h
          clear HD
          subst hjn2
          have hs5 := HB1.out.size
          have e1 : (specM Dif.path ds1 ds2).1 = L.map vv := by rw [LAW.out]
          have e2 : (specM Dif.path ds1 ds2).2 = C.map (pairM vv) := by rw [LAW.out]
          have FIN : Hid ((wr.ownsRow w.heap.size 32 4 u13 (specM Dif.path ds1 ds2).1.length xs ∧ DRow wr u13.ownBlock (specM Dif.path ds1 ds2).1 xs) ∧ (wr.ownsRow w.heap.size 35 8 u16 (specM Dif.path ds1 ds2).2.length ys ∧ DRow wr u16.ownBlock (flatP (specM Dif.path ds1 ds2).2) ys) ∧ Below w.heap.size w wr) := by
            refine Lib.hid ⟨⟨?_, ?_⟩, ⟨?_, ?_⟩, ?_⟩
            · rw [e1, List.length_map]; exact own_below (own_more HOA.out hs5) HW.out
            · rw [e1]; exact HF.out.below HW.out
            · rw [e2, List.length_map]; exact own_more HO.out (Nat.le_trans hs5 HWA.out.size)
            · rw [e2]; exact HF2.out
            · exact below_then (below_then HB1.out hs5 HWA.out) (Nat.le_trans hs5 HWA.out.size) HW.out
          clear e1 e2
          go_wp2
          go_ret2
          obtain ⟨f1, f2, f3⟩ := FIN.out
          first
          | exact ⟨_, _, rfl, ⟨_, f1⟩, ⟨_, f2⟩, f3⟩
          | exact ⟨_, _, rfl, _, _, f1, f2, f3⟩
          | exact ⟨_, _, rfl, ⟨_, f1.1, f1.2⟩, ⟨_, f2.1, f2.2⟩, f3⟩
          | (trace_state; fail)
end Go.Proofs.YtijbdinemjiepaaDoor
