/- The closure of impl.DiffsMerged: what a pointer tells. -/
import Derived.LaidEqlPtr
import Derived.Test.YtijbdinemjiepaaDoorDfR
namespace Go.Proofs.YtijbdinemjiepaaDoor
open Go.RowKit

/-- What the closure sees: the box of all pointers, the box of what was given. -/
structure Env (w : World) (ba bg : Nat) (gs : List Nat) (ds : List Dif) : Prop where
  all : ∃ A n c, w.cell? ⟨ba, 0, none⟩ = some (.slice A n c) ∧ Reads w w.heap.size 1 A n (ptrs gs) ∧ n ≤ 200000
  giv : ∃ A n c xs, w.cell? ⟨bg, 0, none⟩ = some (.slice A n c) ∧ Reads w w.heap.size 4 A n xs ∧ DRow w none ds xs
  row : PRow w none 0 gs ds
theorem Reads.on {w w' : World} {size n : Nat} {A : Option Addr} {xs : List Value} (h : Reads w w.heap.size size A n xs) (hb : Below w.heap.size w w') : Reads w' w'.heap.size size A n xs := (h.below hb).more hb.size
theorem Env.below {w w' : World} {ba bg : Nat} {gs : List Nat} {ds : List Dif} (h : Env w ba bg gs ds) (hb : Below w.heap.size w w') : Env w' ba bg gs ds := by
  obtain ⟨⟨A, n, c, h1, h2, h2'⟩, ⟨A', n', c', xs, h3, h4, h5⟩, h6⟩ := h
  exact ⟨⟨A, n, c, cell_later hb h1, h2.on hb, h2'⟩, ⟨A', n', c', xs, cell_later hb h3, h4.on hb, h5.below hb⟩, h6.below hb⟩
/-- What stands while a change is made plain. -/
structure PS (w W : World) (g b o gi bg : Nat) (ty : Nat) (P : ByteArray) (Ag : Option Addr) (n c : Nat) (P1 P2 : Option Addr) (m1 m2 c1 c2 : Nat) : Prop where
  k0 : W.cell? ⟨g, 0, none⟩ = some (.int .i64 (ty : Nat))
  k1 : W.cell? ⟨g, 1, none⟩ = some (.string P)
  kb : W.cell? ⟨bg, 0, none⟩ = some (.slice Ag n c)
  d2 : W.cell? ⟨b, o + gi * 4 + 2, none⟩ = some (.slice P1 m1 c1)
  d3 : W.cell? ⟨b, o + gi * 4 + 3, none⟩ = some (.slice P2 m2 c2)
  blk : Blk W w.heap.size 32 #[.int .i64 0, .string ⟨#[]⟩, .slice none 0 0, .slice none 0 0]
  bel : Below w.heap.size w W
  lts : g < w.heap.size ∧ bg < w.heap.size ∧ b < w.heap.size
theorem PS.next {w W W' : World} {g b o gi bg : Nat} {ty : Nat} {P : ByteArray} {Ag : Option Addr} {n c : Nat} {P1 P2 : Option Addr} {m1 m2 c1 c2 : Nat} (h : PS w W g b o gi bg ty P Ag n c P1 P2 m1 m2 c1 c2) (hb : Below W.heap.size W W') : PS w W' g b o gi bg ty P Ag n c P1 P2 m1 m2 c1 c2 :=
  ⟨cell_later hb h.k0, cell_later hb h.k1, cell_later hb h.kb, cell_later hb h.d2, cell_later hb h.d3, h.blk.below hb h.blk.lt, bel_next hb h.bel, h.lts⟩
theorem PS.drew {w W : World} {g b o gi bg : Nat} {ty : Nat} {P : ByteArray} {Ag : Option Addr} {n c : Nat} {P1 P2 : Option Addr} {m1 m2 c1 c2 : Nat} (h : PS w W g b o gi bg ty P Ag n c P1 P2 m1 m2 c1 c2) : PS w W.drew g b o gi bg ty P Ag n c P1 P2 m1 m2 c1 c2 := ⟨h.k0, h.k1, h.kb, h.d2, h.d3, h.blk.drew, h.bel.drew, h.lts⟩
theorem PS.kept4 {w W : World} {g b o gi bg : Nat} {ty : Nat} {P : ByteArray} {Ag : Option Addr} {n c : Nat} {P1 P2 : Option Addr} {m1 m2 c1 c2 : Nat} (h : PS w W g b o gi bg ty P Ag n c P1 P2 m1 m2 c1 c2) (x y z u : Value) :
    ((((W.setCell ⟨w.heap.size, 0, none⟩ x).setCell ⟨w.heap.size, 1, none⟩ y).setCell ⟨w.heap.size, 2, none⟩ z).setCell ⟨w.heap.size, 3, none⟩ u).cell? ⟨g, 0, none⟩ = some (.int .i64 (ty : Nat)) ∧
    ((((W.setCell ⟨w.heap.size, 0, none⟩ x).setCell ⟨w.heap.size, 1, none⟩ y).setCell ⟨w.heap.size, 2, none⟩ z).setCell ⟨w.heap.size, 3, none⟩ u).cell? ⟨g, 1, none⟩ = some (.string P) ∧
    ((((W.setCell ⟨w.heap.size, 0, none⟩ x).setCell ⟨w.heap.size, 1, none⟩ y).setCell ⟨w.heap.size, 2, none⟩ z).setCell ⟨w.heap.size, 3, none⟩ u).cell? ⟨bg, 0, none⟩ = some (.slice Ag n c) ∧
    ((((W.setCell ⟨w.heap.size, 0, none⟩ x).setCell ⟨w.heap.size, 1, none⟩ y).setCell ⟨w.heap.size, 2, none⟩ z).setCell ⟨w.heap.size, 3, none⟩ u).cell? ⟨b, o + gi * 4 + 2, none⟩ = some (.slice P1 m1 c1) ∧
    ((((W.setCell ⟨w.heap.size, 0, none⟩ x).setCell ⟨w.heap.size, 1, none⟩ y).setCell ⟨w.heap.size, 2, none⟩ z).setCell ⟨w.heap.size, 3, none⟩ u).cell? ⟨b, o + gi * 4 + 3, none⟩ = some (.slice P2 m2 c2) := by
  obtain ⟨l1, l2, l3⟩ := h.lts
  have q : ∀ b' o' v, b' < w.heap.size → W.cell? ⟨b', o', none⟩ = some v → ((((W.setCell ⟨w.heap.size, 0, none⟩ x).setCell ⟨w.heap.size, 1, none⟩ y).setCell ⟨w.heap.size, 2, none⟩ z).setCell ⟨w.heap.size, 3, none⟩ u).cell? ⟨b', o', none⟩ = some v := by
    intro b' o' v hb hv
    rw [World.cell?_setCell_other _ _ _ _ (fun e => by injection e with e; omega), World.cell?_setCell_other _ _ _ _ (fun e => by injection e with e; omega), World.cell?_setCell_other _ _ _ _ (fun e => by injection e with e; omega), World.cell?_setCell_other _ _ _ _ (fun e => by injection e with e; omega), hv]
  exact ⟨q _ _ _ l1 h.k0, q _ _ _ l1 h.k1, q _ _ _ l2 h.kb, q _ _ _ l3 h.d2, q _ _ _ l3 h.d3⟩
/-- A clone of an identifier, far behind. -/
theorem cloneFar {I : List UInt8} {A : Option Addr} {c B : Nat} {w : World} (h : Reads w B 1 A I.length (u8s I)) (hB : B ≤ w.heap.size) (h0 : 0 < I.length) (hI : I.length ≤ 1000) : Calls Tryd.prog 30 #[.slice A I.length c] w fun e w' => ∃ b c2, e = .returned (.slice (some ⟨b, 0, none⟩) I.length c2) ∧ I.length ≤ c2 ∧ w.heap.size ≤ b ∧ Reads w' w'.heap.size 1 (some ⟨b, 0, none⟩) I.length (u8s I) ∧ Below w.heap.size w w' := by
  refine (cloneId h hB h0 hI).mono ?_
  rintro e w' ⟨⟨b, c2, h1, h2, h3, h4⟩, hb⟩
  exact ⟨b, c2, h1, h2, h3, h4, hb⟩
theorem far_ad {b x y : Nat} (h : y ≤ b) (h2 : x < y) : ∀ ad, (some ⟨b, 0, none⟩ : Option Addr) = some ad → x < ad.block := by
  intro ad e
  injection e with e
  subst e
  show x < b
  omega
theorem infoCh : (Tryd.prog.info? 74).map (fun i => (i.zero, i.size, i.bytes)) = some (some (.agg #[.int .i64 0, .string ByteArray.empty, .string ByteArray.empty, .string ByteArray.empty]), 4, 56) := by kernel_rfl
set_option maxRecDepth 100000 in
set_option maxHeartbeats 4000000 in
theorem plain_any (ba bg : Nat) (gs : List Nat) (ds : List Dif) (i g : Nat) (d : Dif) (w : World) (hE : Env w ba bg gs ds) (hg : gs[i]? = some g) (hd : ds[i]? = some d) :
    Calls Tryd.prog 29 #[.pointer (some ⟨g, 0, none⟩), .pointer (some ⟨ba, 0, none⟩), .pointer (some ⟨bg, 0, none⟩)] w fun e w' => ∃ v, e = .returned (.agg v.toArray) ∧ DVal w' w.heap.size d v ∧ Below w.heap.size w w' := by
  obtain ⟨ich, hic, hc0, hcs, hcb⟩ := info_parts infoCh
  obtain ⟨⟨A, n, c, hca, hra, hnn⟩, ⟨Ag, ng, cg, xs, hcg, hrg, hdr⟩, hrow⟩ := hE
  have hil : i < gs.length := (List.getElem?_eq_some_iff.1 hg).1
  have hin : i < n := by have := hra.1; rw [ptrs_length] at this; omega
  obtain ⟨b1, o1, rfl, hb1, hc1⟩ := hra.lit hin
  obtain ⟨_, hgl, _, ⟨x1, x2, hblk⟩⟩ := hrow.at_ i g d hg hd
  have hdist : ∀ j, j < i → ∃ gj, gs[j]? = some gj ∧ ∀ W : World, Below w.heap.size w W → (binOp .eql 69 (.pointer (some ⟨gj, 0, none⟩)) (.pointer (some ⟨g, 0, none⟩))).run Tryd.prog W = .ok (.bool false) W := fun j hj => by
    have hjl : j < ds.length := by have := hrow.len; omega
    obtain ⟨_, hgjl, _, ⟨y1, y2, hbj⟩⟩ := hrow.at_ j gs[j] ds[j] (List.getElem?_eq_getElem (by omega)) (List.getElem?_eq_getElem hjl)
    refine ⟨gs[j], List.getElem?_eq_getElem (by omega), fun W hW => run_eql_ptr_other W Tryd.underlying69 hic (by rw [hcs]; decide) (fun e => ?_) (hbj.below hW hgjl) (hblk.below hW hgl)⟩
    have e : gs[j] = g := by injection e
    have h2 : gs[i] = g := by have := List.getElem?_eq_getElem hil; rw [this] at hg; exact Option.some.inj hg
    have := (List.getElem_inj hrow.dist).1 (e.trans h2.symm)
    omega
  have hsame : ∀ W : World, (binOp .eql 69 (.pointer (some ⟨g, 0, none⟩)) (.pointer (some ⟨g, 0, none⟩))).run Tryd.prog W = .ok (.bool true) W := fun W => run_eql_ptr_same W _ Tryd.underlying69 hic
  have hnl : ng = gs.length := by have h1 := hrg.1; have h2 := hdr.length; have h3 := hrow.len; omega
  have hal : ba < w.heap.size := World.block_lt_of_cell? w _ hca
  have hgl2 : bg < w.heap.size := World.block_lt_of_cell? w _ hcg
  have HC := Lib.hid (fun j gj (h : gs[j]? = some gj) => hc1 j _ (ptrs_at gs j gj h))
  have HD := Lib.hid hdist
  have HRG := Lib.hid hrg
  have HDR := Lib.hid hdr
  have HG := Lib.hid hg
  have HDD := Lib.hid hd
  have HBLK := Lib.hid hblk
  have HCG := Lib.hid hcg
  have hca2 := cell_alloc hca (.cells #[.int .i64 0, .string ⟨#[]⟩, .slice none 0 0, .slice none 0 0] 32)
  clear hca hra hc1 hdist hrow hblk hrg hdr hg hd hcg
  go_enter Tryd.func29, Tryd.ntmps29
  go_wp2
  go_loopw [9] (fun si wr => ∃ j : Nat, j ≤ i ∧ si = .int .i64 j ∧ wr = w.alloc (.cells #[.int .i64 0, .string ⟨#[]⟩, .slice none 0 0, .slice none 0 0] 32)) (fun si _ => n - (intOf si).toNat)
  case atStart => exact ⟨0, Nat.zero_le _, rfl, rfl⟩
  case round =>
    obtain ⟨j, hj, rfl, rfl⟩ := hrel
    have g1 : (j : Int) < (n : Int) := by omega
    by_cases hlt : j < i
    · obtain ⟨gj, hgj, hne⟩ := HD.out j hlt
      have hne1 := hne _ (below_one w (.cells #[.int .i64 0, .string ⟨#[]⟩, .slice none 0 0, .slice none 0 0] 32))
      have k0 := cell_alloc (HC.out j gj hgj) (.cells #[.int .i64 0, .string ⟨#[]⟩, .slice none 0 0, .slice none 0 0] 32)
      clear hgj hne
      go_wp2
      go_roundw
      case rel => exact ⟨j + 1, by omega, by go_num, trivial⟩
      case measure => simp [intOf]; omega
    · obtain rfl : j = i := by omega
      have k0 := cell_alloc (HC.out j g HG.out) (.cells #[.int .i64 0, .string ⟨#[]⟩, .slice none 0 0, .slice none 0 0] 32)
      obtain ⟨b, o, P1, p1, P2, p2, rfl, hb, ⟨_, _, f2, f3⟩, ⟨hq1, hq2⟩, r1, r2⟩ := HDR.out.cells HRG.out (Nat.le_refl _) (Below.refl _ _) HDD.out
      have d2 := cell_alloc f2 (.cells #[.int .i64 0, .string ⟨#[]⟩, .slice none 0 0, .slice none 0 0] 32)
      have d3 := cell_alloc f3 (.cells #[.int .i64 0, .string ⟨#[]⟩, .slice none 0 0, .slice none 0 0] 32)
      obtain ⟨l1, u1⟩ := identB_bounds d.bef
      obtain ⟨l2, u2⟩ := identB_bounds d.aft
      have ks := hsame (w.alloc (.cells #[.int .i64 0, .string ⟨#[]⟩, .slice none 0 0, .slice none 0 0] 32))
      have hr1 : ∀ W, Below w.heap.size w W → Reads W W.heap.size 1 P1 (identB d.bef).length (u8s (identB d.bef)) := fun W hW => r1.on hW
      have hr2 : ∀ W, Below w.heap.size w W → Reads W W.heap.size 1 P2 (identB d.aft).length (u8s (identB d.aft)) := fun W hW => r2.on hW
      have CL1 := Lib.hid (fun W (hW : Below w.heap.size w W) => cloneFar (c := p1) (hr1 W hW) (Nat.le_refl _) l1 u1)
      have CL2 := Lib.hid (fun W (hW : Below w.heap.size w W) => cloneFar (c := p2) (hr2 W hW) (Nat.le_refl _) l2 u2)
      have HDV : Hid (d = ⟨d.ty, d.path, d.bef, d.aft⟩) := rfl
      have HS : Hid (PS w (w.alloc (.cells #[.int .i64 0, .string ⟨#[]⟩, .slice none 0 0, .slice none 0 0] 32)) g b o j bg d.ty d.path (some ⟨b, o, none⟩) ng cg P1 P2 (identB d.bef).length (identB d.aft).length p1 p2) := ⟨cell_alloc (HBLK.out.cell 0) _, cell_alloc (HBLK.out.cell 1) _, cell_alloc HCG.out _, d2, d3, Blk.new _ _ _, below_one w _, hgl, hgl2, hb⟩
      have DV : Hid (∀ (W : World) (A1 A2 : Option Addr) (c1 c2 : Nat), (identB d.bef).length ≤ c1 → (identB d.aft).length ≤ c2 → Reads W W.heap.size 1 A1 (identB d.bef).length (u8s (identB d.bef)) → Reads W W.heap.size 1 A2 (identB d.aft).length (u8s (identB d.aft)) → (∀ ad, A1 = some ad → w.heap.size < ad.block) → (∀ ad, A2 = some ad → w.heap.size < ad.block) → DVal W w.heap.size d [.int .i64 (d.ty : Nat), .string d.path, .slice A1 (identB d.bef).length c1, .slice A2 (identB d.aft).length c2]) := fun W A1 A2 c1 c2 h1 h2 r1 r2 n1 n2 => ⟨A1, c1, A2, c2, rfl, ⟨h1, h2⟩, ⟨r1, r2⟩, n1, n2⟩
      clear f2 f3 hr1 hr2 r1 r2 HDV HDR HRG HDD HCG HD HC
      generalize identB d.bef = I1 at *
      generalize identB d.aft = I2 at *
      generalize d.path = P at *
      generalize d.ty = ty at *
      have k0' := HS.out.k0
      have k1 := HS.out.k1
      have kb := HS.out.kb
      have d2 := HS.out.d2
      have d3 := HS.out.d3
      have hjn : (j : Int) < (ng : Int) := by omega
      go_wp2_with fail
      clear k0
      have k0 := k0'
      clear k0'
      go_region_held3 (fun w' => w'.cell? ⟨g, 0, none⟩ = some (.int .i64 (ty : Nat)) ∧ w'.cell? ⟨g, 1, none⟩ = some (.string P) ∧ w'.cell? ⟨bg, 0, none⟩ = some (.slice (some ⟨b, o, none⟩) ng cg) ∧ w'.cell? ⟨b, o + j * 4 + 2, none⟩ = some (.slice P1 I1.length p1) ∧ w'.cell? ⟨b, o + j * 4 + 3, none⟩ = some (.slice P2 I2.length p2)) (first | (with_reducible exact ⟨k0, k1, kb, d2, d3⟩) | (with_reducible exact HS.out.kept4 _ _ _ _) | (exact ⟨k0, k1, kb, d2, d3⟩)) (first | (go_at_call_of 30 (Value.slice P1 I1.length p1); (first | (with_reducible refine (CL1.out _ HS.out.bel).mono ?_) | (with_reducible refine (CL1.out _ HS.out.drew.bel).mono ?_)); rintro e wa1 ⟨q1, e1, rfl, he1, hf1, hr1, hb⟩; have HR1 := Lib.hid hr1; have HC1 := Lib.hid he1; have HN1 := Lib.hid (far_ad hf1 (by first | with_reducible exact HS.out.blk.lt | with_reducible exact HS.out.drew.blk.lt)); have hS := Lib.hid (by first | with_reducible exact HS.out.next hb | with_reducible exact HS.out.drew.next hb); (try clear z0 z1 z2 z3 y0 y1 y2 y3 yl); (try (have hx := Lib.hid (HR2.out.on hb); clear HR2; have HR2 := hx; clear hx)); clear k0 k1 kb d2 d3 HS hb he1 hf1 hr1; have HS := hS; clear hS; have k0 := HS.out.k0; have k1 := HS.out.k1; have kb := HS.out.kb; have d2 := HS.out.d2; have d3 := HS.out.d3; have z0 := HS.out.blk.cell 0; have z1 := HS.out.blk.cell 1; have z2 := HS.out.blk.cell 2; have z3 := HS.out.blk.cell 3; have y0 := HS.out.blk.frozen 0; have y1 := HS.out.blk.frozen 1; have y2 := HS.out.blk.frozen 2; have y3 := HS.out.blk.frozen 3; have yl := HS.out.blk.lt) | (go_at_call_of 30 (Value.slice P2 I2.length p2); (first | (with_reducible refine (CL2.out _ HS.out.bel).mono ?_) | (with_reducible refine (CL2.out _ HS.out.drew.bel).mono ?_)); rintro e wa2 ⟨q2, e2, rfl, he2, hf2, hr2, hb⟩; have HR2 := Lib.hid hr2; have HC2 := Lib.hid he2; have HN2 := Lib.hid (far_ad hf2 (by first | with_reducible exact HS.out.blk.lt | with_reducible exact HS.out.drew.blk.lt)); have hS := Lib.hid (by first | with_reducible exact HS.out.next hb | with_reducible exact HS.out.drew.next hb); (try clear z0 z1 z2 z3 y0 y1 y2 y3 yl); (try (have hx := Lib.hid (HR1.out.on hb); clear HR1; have HR1 := hx; clear hx)); clear k0 k1 kb d2 d3 HS hb he2 hf2 hr2; have HS := hS; clear hS; have k0 := HS.out.k0; have k1 := HS.out.k1; have kb := HS.out.kb; have d2 := HS.out.d2; have d3 := HS.out.d3; have z0 := HS.out.blk.cell 0; have z1 := HS.out.blk.cell 1; have z2 := HS.out.blk.cell 2; have z3 := HS.out.blk.cell 3; have y0 := HS.out.blk.frozen 0; have y1 := HS.out.blk.frozen 1; have y2 := HS.out.blk.frozen 2; have y3 := HS.out.blk.frozen 3; have yl := HS.out.blk.lt) | fail)
      all_goals
        go_wp2
        (try simp only [Exit.inBlock, Exit.then])
        refine bodyPost_ret (results_cell_row rfl _ _ _ _ _ _ _ rfl (show Blk _ _ _ _ by with_reducible exact fin_blk HS.out.blk _ _ _ _) Tryd.underlying32 rfl (by kernel_rfl)) rfl ?_
        with_reducible refine ⟨[.int .i64 (ty : Nat), .string P, .slice (some ⟨q1, 0, none⟩) I1.length e1, .slice (some ⟨q2, 0, none⟩) I2.length e2], rfl, DV.out _ _ _ _ _ HC1.out HC2.out (fin_read HR1.out HN1.out _ _ _ _) (fin_read HR2.out HN2.out _ _ _ _) HN1.out HN2.out, fin_below HS.out.bel _ _ _ _⟩
end Go.Proofs.YtijbdinemjiepaaDoor
