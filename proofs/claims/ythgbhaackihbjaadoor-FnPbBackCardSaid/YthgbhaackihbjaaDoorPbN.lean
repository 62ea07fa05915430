/- The thin package's pbNode: what a node's message is in memory. -/
import Derived.Test.YthgbhaackihbjaaDoorPbO
import Derived.Deep.DeepCutAuto
import Derived.Deep.RegionHeld3
import Derived.Deep.AppendLies
namespace Go.Proofs.YthgbhaackihbjaaDoor
open Go.RowKit

/-- A node's message. -/
structure MN where
  links : List ML
  data : Option (List UInt8)
def mn (x : PNd) : MN := ⟨x.links.map ml, if x.has then some x.data else none⟩
def ptrs (ps : List Nat) : List Value := ps.map fun q => .pointer (some ⟨q, 0, none⟩)
theorem ptrs_length (ps : List Nat) : (ptrs ps).length = ps.length := by simp [ptrs]
theorem ptrs_append (a b : List Nat) : ptrs (a ++ b) = ptrs a ++ ptrs b := by simp [ptrs]
structure NodeObj (w : World) (lo B p : Nat) (m : MN) : Prop where
  le : lo ≤ p
  lt : p < B
  ls : ∃ A n c ps, w.cell? ⟨p, 0, none⟩ = some (.slice A n c) ∧ n ≤ c ∧ m.links.length = n ∧ Reads w B 1 A n (ptrs ps) ∧ ∀ (i q : Nat), ps[i]? = some q → ∃ x, m.links[i]? = some x ∧ LinkObj w lo B q x
  data : ∃ v, w.cell? ⟨p, 1, none⟩ = some v ∧ OptSlice w lo B v m.data
  un : w.cell? ⟨p, 2, none⟩ = some (.slice none 0 0)
theorem NodeObj.below {w w' : World} {lo B p : Nat} {m : MN} (h : NodeObj w lo B p m) (hb : Below B w w') : NodeObj w' lo B p m := by
  obtain ⟨le, lt, ⟨A, n, c, ps, h1, h2, h3, h4, h5⟩, ⟨v, d1, d2⟩, un⟩ := h
  have e : ∀ j, w'.cell? ⟨p, j, none⟩ = w.cell? ⟨p, j, none⟩ := fun j => hb.cell (p := ⟨p, j, none⟩) lt
  exact ⟨le, lt, ⟨A, n, c, ps, (e 0).trans h1, h2, h3, h4.below hb, fun i q hq => by
    obtain ⟨x, hx, hl⟩ := h5 i q hq
    exact ⟨x, hx, hl.below hb⟩⟩, ⟨v, (e 1).trans d1, d2.alike (.of_below hb)⟩, (e 2).trans un⟩

/-- The links made so far: each in a range of its own that the row does not meet. -/
structure PsR (w : World) (base : Nat) (lv : Value) (ps : List Nat) (ls : List PLk) : Prop where
  all : ∀ (i q : Nat), ps[i]? = some q → ∃ l lo hi, ls[i]? = some l ∧ base ≤ lo ∧ hi ≤ w.heap.size ∧ (∀ k, lv.ownBlock = some k → k < lo ∨ hi ≤ k) ∧ LinkObj w lo hi q (ml l)
theorem alike_set {lo B : Nat} {w w' : World} (h : Alike lo B w w') {p : Addr} (hp : p.block < lo ∨ B ≤ p.block) (u : Value) : Alike lo B w (w'.setCell p u) := fun a h1 h2 =>
  (World.cell?_of_block (Below.heap_setCell w' p u a.block (by omega))).trans (h a h1 h2)
theorem Alike.trans {lo B : Nat} {w w' w2 : World} (h : Alike lo B w w') (k : Alike lo B w' w2) : Alike lo B w w2 := fun a h1 h2 => (k a h1 h2).trans (h a h1 h2)
theorem PsR.nil (w : World) (base : Nat) (lv : Value) (ls : List PLk) : PsR w base lv [] ls := ⟨fun i q h => by simp at h⟩
theorem PsR.step {wr w2 w3 w4 : World} {base j g1 q s hi gg c : Nat} {e : TypeId} {lv u : Value} {ps : List Nat} {xs : List Value} {ls : List PLk} {l : PLk} (h : PsR wr base lv ps ls) (hlv : wr.ownsRow base e 1 lv j xs)
    (hb : Below wr.heap.size wr w3) (hl : LinkObj w3 s hi q (ml l)) (hhi : hi ≤ w3.heap.size) (hs : wr.heap.size ≤ s) (hls : ls[ps.length]? = some l) (hg : w3.grownBy w4 lv.ownBlock) (hat : lv.ownBlock = some gg ∨ gg = w3.heap.size)
    (hg1 : g1 < base) (hbase : base ≤ wr.heap.size) (he : w2 = w4.setCell ⟨g1, 0, none⟩ u) : PsR w2 base (.slice (some ⟨gg, 0, none⟩) (j + 1) c) (ps ++ [q]) ls := by
  subst he
  have hsz := hg.size
  have hwz := hb.size
  refine ⟨fun i y hy => ?_⟩
  have hown : ∀ k, (Value.slice (some ⟨gg, 0, none⟩) (j + 1) c).ownBlock = some k → k = gg := fun k hk => by
    simp [Value.ownBlock] at hk
    exact hk.symm
  have hsz2 : (w4.setCell ⟨g1, 0, none⟩ u).heap.size = w4.heap.size := by simp
  by_cases hip : i < ps.length
  · rw [List.getElem?_append_left hip] at hy
    obtain ⟨l', lo, hi', h1, h2, h3, h4, h5⟩ := h.all i y hy
    refine ⟨l', lo, hi', h1, h2, by omega, fun k hk => ?_, h5.alike ?_⟩
    · have hk2 := hown k hk
      subst hk2
      rcases hat with hat | hat
      · exact h4 k hat
      · exact .inr (by omega)
    · refine alike_set (Alike.trans ?_ (Alike.of_grown hg (by omega) h4)) (.inl (by show g1 < lo; omega)) u
      exact .of_below (hb.mono h3)
  · have hi2 : i = ps.length := by
      have hlt := (List.getElem?_eq_some_iff.mp hy).1
      simp at hlt
      omega
    subst hi2
    rw [List.getElem?_append_right (Nat.le_refl _)] at hy
    simp at hy
    subst hy
    have hne : ∀ k, lv.ownBlock = some k → k < s := fun k hk => Nat.lt_of_lt_of_le (hlv.lt k hk).2 hs
    refine ⟨l, s, hi, hls, by omega, by omega, fun k hk => ?_, hl.alike ?_⟩
    · have hk2 := hown k hk
      subst hk2
      rcases hat with hat | hat
      · exact .inl (hne k hat)
      · exact .inr (by omega)
    · exact alike_set (Alike.of_grown hg hhi (fun k hk => .inl (hne k hk))) (.inl (by show g1 < s; omega)) u

/-- A pointer to a node's message, all of it new. -/
structure NewNode (w : World) (m : MN) (r : Ending) (w' : World) : Prop where
  ex : ∃ p, r = .returned (.pointer (some ⟨p, 0, none⟩)) ∧ NodeObj w' w.heap.size w'.heap.size p m
  below : Below w.heap.size w w'
theorem Tryd.infoPL : (Tryd.prog.info? 64).map (fun i => (i.zero, i.size, i.bytes)) = some (some (.pointer none), 1, 8) := by kernel_rfl
/-- What stands at the loop's head. -/
structure NodeHead (w wb : World) (x : PNd) (wr : World) (dv : Value) : Prop where
  blk : Blk wr (w.heap.size + 1) 46 #[.slice none 0 0, dv, .slice none 0 0, .int .i32 0]
  data : OptSlice wr (w.heap.size + 2) wr.heap.size dv (mn x).data
  below : Below (w.heap.size + 1) wb wr
  size : w.heap.size + 2 ≤ wr.heap.size
/-- What stands at the head of a round. -/
structure NodeRow (w wc : World) (links : List PLk) (d : Option (List UInt8)) (dv : Value) (wr : World) (j : Nat) (lv : Value) (ps : List Nat) : Prop where
  len : ps.length = j
  own : wr.ownsRow wc.heap.size 64 1 lv j (ptrs ps)
  blk : Blk wr (w.heap.size + 1) 46 #[lv, dv, .slice none 0 0, .int .i32 0]
  data : OptSlice wr (w.heap.size + 2) wc.heap.size dv d
  below : Below (w.heap.size + 1) wc wr
  size : wc.heap.size ≤ wr.heap.size
  ps : PsR wr wc.heap.size lv ps links
theorem node_step {w wc wr w3 w5 : World} {links : List PLk} {d : Option (List UInt8)} {dv lv : Value} {j q s gg cap : Nat} {ps : List Nat} {l : PLk} {o : Obj} (h : NodeRow w wc links d dv wr j lv ps) (hb : Below wr.heap.size wr w3)
    (hl : LinkObj w3 s w3.heap.size q (ml l)) (hs : wr.heap.size ≤ s) (hls : links[j]? = some l) (hg : (w3.alloc o).grownBy w5 lv.ownBlock) (hat : lv.ownBlock = some gg ∨ gg = w3.heap.size + 1)
    (hown : w5.ownsRow wc.heap.size 64 1 (.slice (some ⟨gg, 0, none⟩) (j + 1) cap) (j + 1) (ptrs ps ++ ptrs [q])) (hw : w.heap.size + 1 < wc.heap.size) :
    NodeRow w wc links d dv (w5.setCell ⟨w.heap.size + 1, 0, none⟩ (.slice (some ⟨gg, 0, none⟩) (j + 1) cap)) (j + 1) (.slice (some ⟨gg, 0, none⟩) (j + 1) cap) (ps ++ [q]) := by
  have hsz := h.size
  have hbase := own_base h.own
  have hB4 : Below wr.heap.size wr (w3.alloc o) := hb.alloc hb.size o
  have hsz4 := hB4.size
  have hB6 : Below wc.heap.size wr w5 := (hB4.mono hsz).grown hg (by omega) hbase
  have hsz6 := hB6.size
  have hne1 : lv.ownBlock ≠ some (w.heap.size + 1) := fun e => by have := hbase _ e; omega
  refine ⟨?_, ?_, ?_, ?_, ?_, ?_, ?_⟩
  · rw [List.length_append, h.len]; rfl
  · rw [ptrs_append]
    exact ownsRow_setCell_below hown (by show w.heap.size + 1 < wc.heap.size; omega) _
  · exact (((h.blk.below hb (by omega)).alloc o).grown hg (fun e => hne1 e.symm)).set_ 0 _
  · exact h.data.alike (alike_set (.of_below hB6) (.inl (by show w.heap.size + 1 < w.heap.size + 2; omega)) _)
  · exact (h.below.trans (hB6.mono (by omega))).setCell (by simp) _
  · simpa using Nat.le_trans hsz hsz6
  · refine PsR.step (g1 := w.heap.size + 1) h.ps h.own hB4 (hl.below ((Below.refl _ _).alloc (Nat.le_refl _) o)) (by simp) hs (by rw [h.len]; exact hls) hg ?_ hw hsz rfl
    simpa using hat
theorem node_made {w wb wc wr : World} {x : PNd} {dv lv : Value} {j : Nat} {ps : List Nat} {cs : Obj} (h : NodeRow w wc x.links (mn x).data dv wr j lv ps) (hh : NodeHead w (w.alloc cs) x wc dv) (hj : x.links.length = j) (hw : wb = wr) :
    NewNode w (mn x) (.returned (.pointer (some ⟨w.heap.size + 1, 0, none⟩))) wb := by
  subst hw
  have hsz := h.size
  have hsz2 := hh.size
  obtain ⟨A, c, rfl, hle, hr⟩ := own_shape h.own
  have hd : OptSlice wb w.heap.size wb.heap.size dv (mn x).data := h.data.wide (by omega) hsz
  refine ⟨⟨w.heap.size + 1, rfl, by omega, by omega, ⟨A, j, c, ps, h.blk.cell 0, hle, by simp [mn, hj], hr, fun i q hq => ?_⟩, ⟨dv, h.blk.cell 1, hd⟩, h.blk.cell 2⟩, (below_one w cs).trans ((hh.below.trans h.below).mono (by omega))⟩
  obtain ⟨l, lo, hi, h1, h2, h3, _, h5⟩ := h.ps.all i q hq
  exact ⟨ml l, by simp [mn, h1], h5.wide (by omega) h3⟩
theorem ptrs_one (ps : List Nat) : ∀ u ∈ ptrs ps, u.oneCell' = true := by
  intro u hu
  simp only [ptrs, List.mem_map] at hu
  obtain ⟨q, _, rfl⟩ := hu
  rfl
set_option maxRecDepth 100000 in
set_option maxHeartbeats 1000000 in
theorem pbNode_any (x : PNd) (v : Value) (B : Nat) (w : World) (hx : NodeArg w B x v) (hB : B ≤ w.heap.size) (hd : x.data.length ≤ 500) (hk : x.links.length ≤ 20) (hsm : ∀ l ∈ x.links, l.hash.length ≤ 100) :
    Calls Tryd.prog 23 #[v] w (NewNode w (mn x)) := by
  obtain ⟨A, n, c, A2, n2, c2, rfl, hnc, hcm, hr, hn2, hl⟩ := hx.ex
  obtain ⟨i0, hi, hz0, hz1, hz2⟩ := info_parts infoU8
  obtain ⟨ip, hip, hp0, hp1, hp2⟩ := info_parts Tryd.infoPL
  have hdn := data_len hr
  obtain ⟨has, data, links⟩ := x
  simp only at hdn hd hk hsm hl hr
  have own0 := World.ownsRow_made (base := w.heap.size + 2) (e := 5) (size := 1) ((w.alloc (.cells #[.bool true, .slice A n c, .slice A2 n2 c2] 28)).alloc (.cells #[.slice none 0 0, .slice none 0 0, .slice none 0 0, .int .i32 0] 46)) #[] 0 (by simp) (by unfold maxLen; omega) rfl
  have HO0 : Hid ((((w.alloc (.cells #[.bool true, .slice A n c, .slice A2 n2 c2] 28)).alloc (.cells #[.slice none 0 0, .slice none 0 0, .slice none 0 0, .int .i32 0] 46)).alloc (.cells #[] 5)).ownsRow (w.heap.size + 2) 5 1 (.slice (some ⟨w.heap.size + 1 + 1, 0, none⟩) 0 0) 0 []) := by
    rw [World.size_alloc, World.size_alloc] at own0
    exact own0
  have hr2 := ((hr.alloc hB (.cells #[.bool true, .slice A n c, .slice A2 n2 c2] 28)).alloc (by simp; omega) (.cells #[.slice none 0 0, .slice none 0 0, .slice none 0 0, .int .i32 0] 46)).alloc (by simp; omega) (.cells #[] 5)
  have HR2 := Lib.hid hr2
  have b1 : 0 + n ≤ maxLen := by unfold maxLen; omega
  have b2 : (0 + n) * 1 ≤ 140737488355328 := by omega
  have b3 : w.heap.size + 2 ≤ (((w.alloc (.cells #[.bool true, .slice A n c, .slice A2 n2 c2] 28)).alloc (.cells #[.slice none 0 0, .slice none 0 0, .slice none 0 0, .int .i32 0] 46)).alloc (.cells #[] 5)).heap.size := by simp
  have B3 := Lib.hid b3
  have h1 := u8s_one data
  have HL := Lib.hid hl
  have HLN := Lib.hid hl.1
  have HDN := Lib.hid hdn
  have HSM := Lib.hid hsm
  clear own0 hr2 b3 hr hl hdn hx hsm
  go_enter Tryd.func23, Tryd.ntmps23
  go_upto_if 9 with fail
  go_cut [] (fun wx => ∃ dv, NodeHead w (w.alloc (.cells #[.bool has, .slice A n c, .slice A2 n2 c2] 28)) ⟨has, data, links⟩ wx dv)
  case first =>
    cases has with
    | true =>
      go_wp2_with (at_builtin; refine wpList_append_any _ rfl (.tmp 11) (.tmp 13) 22 rfl (w.heap.size + 2) 5 i0 (.int .u8 0) 1 1 Tryd.underlying22 hi hz0 hz1 hz2 rfl (by decide) _ 0 [] rfl HO0.out B A n c _ rfl HR2.out h1 b1 b2 B3.out ?_; rintro v3 w3 hown3 hg3 _ hnil3; have hbw : Below (w.heap.size + 2) ((w.alloc (.cells #[.bool true, .slice A n c, .slice A2 n2 c2] 28)).alloc (.cells #[.slice none 0 0, .slice none 0 0, .slice none 0 0, .int .i32 0] 46)) w3 := ((Below.refl _ _).alloc (by simp) _).grown hg3 B3.out (own_base HO0.out); obtain ⟨hc3, hf3⟩ := bcell hbw; have hz3 : w.heap.size + 1 < w3.heap.size := (by have h := hbw.size; simp at h; omega); have hz0 : w.heap.size < w3.heap.size := (by omega); simp only [Nat.zero_add, List.nil_append] at hown3; obtain ⟨A3, c3, rfl, hle3, hr3⟩ := own_shape hown3; have HA3 := Lib.hid (own_nonnil hown3 (fun e => (by have h2 : Value.slice (some ⟨w.heap.size + 1 + 1, 0, none⟩) 0 0 = .slice none 0 0 := (hnil3.1 e).1; cases h2))); have HW3 := Lib.hid (And.intro hown3 hbw); clear hr3 hnil3)
      go_meet
      have e0 : (optBytes (some data)).length = n := HDN.out
      refine ⟨.slice A3 n c3, ?_, ?_, ?_, ?_⟩
      · have h := ((Blk.new (w.alloc (.cells #[.bool true, .slice A n c, .slice A2 n2 c2] 28)) 46 #[.slice none 0 0, .slice none 0 0, .slice none 0 0, .int .i32 0]).below HW3.out.2 (by simp))
        rw [World.size_alloc] at h
        exact h.set_ 1 _
      · refine ⟨A3, c3, ?_, HA3.out, ?_, ?_, ?_⟩
        · show Value.slice A3 n c3 = .slice A3 (optBytes (some data)).length c3
          rw [e0]
        · show (optBytes (some data)).length ≤ c3
          rw [e0]
          exact hle3
        · show Reads _ _ 1 A3 (optBytes (some data)).length (u8s data)
          rw [e0]
          refine Reads.of_own (base := w.heap.size + 2) (e := 5) (c := c3) ?_
          exact ownsRow_setCell_below HW3.out.1 (by simp) _
        · intro ad hA
          exact own_base HW3.out.1 ad.block (by rw [hA]; rfl)
      · exact Below.setCell (((Below.refl (w.heap.size + 1) (w.alloc (.cells #[.bool true, .slice A n c, .slice A2 n2 c2] 28))).alloc (by simp) _).trans (HW3.out.2.mono (by omega))) (by simp) _
      · simp; omega
    | false =>
      go_wp2
      go_meet
      refine ⟨.slice none 0 0, ?_, ⟨none, 0, rfl, rfl, Nat.le_refl _, Reads.none_, fun ad h => (by cases h)⟩, ?_, ?_⟩
      · have h := Blk.new (w.alloc (.cells #[.bool false, .slice A n c, .slice A2 n2 c2] 28)) 46 #[.slice none 0 0, .slice none 0 0, .slice none 0 0, .int .i32 0]
        rw [World.size_alloc] at h
        exact h
      · exact (Below.refl _ _).alloc (by simp) _
      · simp
  case rest =>
    obtain ⟨dv, hh⟩ := hcut
    have hcl : wc.cell? ⟨w.heap.size, 2, none⟩ = some (.slice A2 n2 c2) := (hh.below.cell (p := ⟨w.heap.size, 2, none⟩) (by simp)).trans (by simp [World.cell?_alloc_new])
    have hsz := hh.size
    have hlc := HL.out.below (B := B) (((below_one w (.cells #[.bool has, .slice A n c, .slice A2 n2 c2] 28)).mono hB).trans (hh.below.mono (by omega)))
    have HLC := Lib.hid hlc
    have HH := Lib.hid hh
    clear hlc hh
    go_wp2
    go_loopw [5, 20] (fun _ i wr => ∃ j : Nat, j ≤ n2 ∧ i = .int .i64 j ∧ ∃ lv ps, NodeRow w wc links (mn ⟨has, data, links⟩).data dv wr j lv ps) (fun _ i _ => n2 - (intOf i).toNat)
    case atStart => exact ⟨0, Nat.zero_le _, rfl, .slice none 0 0, [], rfl, World.ownsRow_nil _ _ _ _, HH.out.blk, HH.out.data, Below.refl _ _, Nat.le_refl _, PsR.nil _ _ _ _⟩
    case round =>
      obtain ⟨j, hj, rfl, lv, ps, hrow⟩ := hrel
      by_cases hlt : j < n2
      · obtain ⟨b, o, rfl, hbB, hc⟩ := (HLC.out.below (hrow.below.mono (by omega))).2.2 (by omega)
        have hjl : j < links.length := by have := HLN.out; omega
        have hlj := List.getElem?_eq_getElem hjl
        have hcj := hc j links[j] hlj
        have hjm : links[j] ∈ links := List.getElem_mem hjl
        have hjs := HSM.out links[j] hjm
        generalize links[j] = l at hcj hjm hlj hjs
        obtain ⟨c0, c1, c2, ⟨A3, c3, c3', hle3, hmx3, hr3⟩, c4, c5, hok⟩ := hcj
        have hwr := hrow.size
        have HROW := Lib.hid hrow
        have HR3 := Lib.hid hr3
        have HLJ := Lib.hid hlj
        have HOK := Lib.hid hok
        clear hc hrow hr3 hlj hok
        go_wp2_with fail
        have k0 : wr.cell? ⟨w.heap.size + 1, 0, none⟩ = some lv := HROW.out.blk.cell 0
        have kf := HROW.out.blk.frozen 0
        have hwg : w.heap.size + 1 < wr.heap.size := by omega
        have hw4 : ((wr.alloc (.cells #[.bool l.hh, .bool l.hn, .bool l.hs, .slice A3 l.hash.length c3, .string l.name, .int .u64 l.size] 53))).heap.size = wr.heap.size + 1 := by simp
        have hr7 : Reads ((wr.alloc (.cells #[.bool l.hh, .bool l.hn, .bool l.hs, .slice A3 l.hash.length c3, .string l.name, .int .u64 l.size] 53)).drew) B 1 A3 l.hash.length (u8s l.hash) := HR3.out.alloc (by omega) _
        have hB7 : B ≤ ((wr.alloc (.cells #[.bool l.hh, .bool l.hn, .bool l.hs, .slice A3 l.hash.length c3, .string l.name, .int .u64 l.size] 53)).drew).heap.size := by show B ≤ (wr.alloc _).heap.size; rw [hw4]; omega
        have HR7 := Lib.hid hr7
        have HB7 := Lib.hid hB7
        have HW4 := Lib.hid hw4
        clear hr7 hB7 hw4
        have hb63 : j + 1 ≤ maxLen := by unfold maxLen; have := HLN.out; omega
        have hb47 : (j + 1) * 8 ≤ 140737488355328 := by have := HLN.out; omega
        have hne1 : lv.ownBlock ≠ some (w.heap.size + 1) := fun e => by have := own_base HROW.out.own _ e; omega
        have hne2 : lv.ownBlock ≠ some wr.heap.size := fun e => by have := (HROW.out.own.lt _ e).2; omega
        go_region_law (first
            | (refine step_append_lies _ (by rfl) (.tmp 28) (.tmp 31) 43 (by rfl) wc.heap.size 64 ip _ 1 8 Tryd.underlying43 hip hp0 hp1 hp2 rfl (by decide) lv j (ptrs ps) (by rfl) ((own_below HROW.out.own HB5.out).alloc _) ⟨w3.heap.size, 0, none⟩ 1 1 (ptrs [q]) (by rfl) (by rfl) (World.news_of_block (cs := #[.pointer (some ⟨q, 0, none⟩)]) (t := 64) (fr := (0, 0)) (heap_alloc_new w3 _)) (ptrs_one [q]) (by decide) hb63 hb47 (by simp; omega) (w3.heap.size + 1) (by simp) ?_; intro gg cap w5 hown5 hg5 hat5 hlt5; have f0 : w5.cell? ⟨w.heap.size + 1, 0, none⟩ = some lv := (World.cell?_of_block (hg5.block (w.heap.size + 1) (by simp; omega) (fun e => hne1 e.symm))).trans (cell_alloc e0 _); have f1 : w5.cell? ⟨wr.heap.size, 0, none⟩ = some (.bool l.hh) := (World.cell?_of_block (hg5.block wr.heap.size (by simp; omega) (fun e => hne2 e.symm))).trans (cell_alloc e1 _); have f2 : w5.cell? ⟨wr.heap.size, 1, none⟩ = some (.bool l.hn) := (World.cell?_of_block (hg5.block wr.heap.size (by simp; omega) (fun e => hne2 e.symm))).trans (cell_alloc e2 _); have f3 : w5.cell? ⟨wr.heap.size, 2, none⟩ = some (.bool l.hs) := (World.cell?_of_block (hg5.block wr.heap.size (by simp; omega) (fun e => hne2 e.symm))).trans (cell_alloc e3 _); have f4 : w5.cell? ⟨wr.heap.size, 3, none⟩ = some (.slice A3 l.hash.length c3) := (World.cell?_of_block (hg5.block wr.heap.size (by simp; omega) (fun e => hne2 e.symm))).trans (cell_alloc e4 _); have f5 : w5.cell? ⟨wr.heap.size, 4, none⟩ = some (.string l.name) := (World.cell?_of_block (hg5.block wr.heap.size (by simp; omega) (fun e => hne2 e.symm))).trans (cell_alloc e5 _); have f6 : w5.cell? ⟨wr.heap.size, 5, none⟩ = some (.int .u64 l.size) := (World.cell?_of_block (hg5.block wr.heap.size (by simp; omega) (fun e => hne2 e.symm))).trans (cell_alloc e6 _); have kf5 : w5.frozen? ⟨w.heap.size + 1, 0, none⟩ = false := (World.frozen?_of_block (hg5.block (w.heap.size + 1) (by simp; omega) (fun e => hne1 e.symm))).trans (((HROW.out.blk.below HB5.out hwg).alloc (.cells #[.pointer (some ⟨q, 0, none⟩)] 64)).frozen 0); have HOWN5 := Lib.hid hown5; have HG5 := Lib.hid hg5; have HAT5 := Lib.hid hat5; clear hown5 hg5 hat5)
            | (go_simp; go_at_call 33; refine (pbLink_any l A3 c3 B _ HR7.out hle3 HB7.out (Nat.le_trans hjs (by decide)) HOK.out).mono ?_; rintro e w3 ⟨⟨q, rfl, hlo⟩, hb3⟩; have hb4 : Below (wr.alloc (.cells #[.bool l.hh, .bool l.hn, .bool l.hs, .slice A3 l.hash.length c3, .string l.name, .int .u64 l.size] 53)).heap.size (wr.alloc (.cells #[.bool l.hh, .bool l.hn, .bool l.hs, .slice A3 l.hash.length c3, .string l.name, .int .u64 l.size] 53)) w3 := ⟨hb3.os, hb3.tape, hb3.output, hb3.size, hb3.block⟩; rw [HW4.out] at hb4; have e0 : w3.cell? ⟨w.heap.size + 1, 0, none⟩ = some lv := (hb4.cell (p := ⟨w.heap.size + 1, 0, none⟩) (Nat.lt_succ_of_lt hwg)).trans (cell_alloc k0 _); have e1 : w3.cell? ⟨wr.heap.size, 0, none⟩ = some (.bool l.hh) := (hb4.cell (p := ⟨wr.heap.size, 0, none⟩) (Nat.lt_succ_self _)).trans (by simp [World.cell?_alloc_new]); have e2 : w3.cell? ⟨wr.heap.size, 1, none⟩ = some (.bool l.hn) := (hb4.cell (p := ⟨wr.heap.size, 1, none⟩) (Nat.lt_succ_self _)).trans (by simp [World.cell?_alloc_new]); have e3 : w3.cell? ⟨wr.heap.size, 2, none⟩ = some (.bool l.hs) := (hb4.cell (p := ⟨wr.heap.size, 2, none⟩) (Nat.lt_succ_self _)).trans (by simp [World.cell?_alloc_new]); have e4 : w3.cell? ⟨wr.heap.size, 3, none⟩ = some (.slice A3 l.hash.length c3) := (hb4.cell (p := ⟨wr.heap.size, 3, none⟩) (Nat.lt_succ_self _)).trans (by simp [World.cell?_alloc_new]); have e5 : w3.cell? ⟨wr.heap.size, 4, none⟩ = some (.string l.name) := (hb4.cell (p := ⟨wr.heap.size, 4, none⟩) (Nat.lt_succ_self _)).trans (by simp [World.cell?_alloc_new]); have e6 : w3.cell? ⟨wr.heap.size, 5, none⟩ = some (.int .u64 l.size) := (hb4.cell (p := ⟨wr.heap.size, 5, none⟩) (Nat.lt_succ_self _)).trans (by simp [World.cell?_alloc_new]); have hb5 : Below wr.heap.size wr w3 := (below_one wr _).trans (hb4.mono (Nat.le_succ _)); have hw3 : wr.heap.size < w3.heap.size := (by have h := hb4.size; rw [HW4.out] at h; omega); have hz3 : w.heap.size + 1 < w3.heap.size := (by omega); have HLO := Lib.hid hlo; have HB5 := Lib.hid hb5; clear hlo hb3 hb4 hb5)
            | fail)
        all_goals (have hz5 : w.heap.size + 1 < w5.heap.size := (by have h := HG5.out.size; simp at h; omega); have hfin := node_step HROW.out HB5.out HLO.out (by show wr.heap.size ≤ (wr.alloc _).heap.size; simp) HLJ.out HG5.out HAT5.out HOWN5.out (by omega); have HFIN := Lib.hid hfin; clear hfin; go_wp2; go_roundw)
        all_goals (try exact ⟨j + 1, by omega, by go_num, .slice (some ⟨gg, 0, none⟩) (j + 1) cap, ps ++ [q], HFIN.out⟩)
        all_goals (simp [intOf]; omega)
      · obtain rfl : j = n2 := by omega
        have HROW := Lib.hid hrow
        clear hrow
        go_wp2
        go_ret
        exact node_made HROW.out HH.out HLN.out rfl
end Go.Proofs.YthgbhaackihbjaaDoor
