/- What the reference reads in a link's message: spec.PbLinkOf. -/
import Derived.Laws.Rows
import Derived.Deep.Cut
import Derived.Deep.RegionHeld3
import Derived.Test.YthgbhaackihbjaaDoorPnL
import Derived.Test.YthgbhaackihbjaaDoorPbTk
namespace Go.Proofs.YthgbhaackihbjaaDoor
open Go.RowKit

theorem results_cell_then {P : Program} {fn : Func} {p u : Tmp} {ty : TypeId} (h : fn.results = #[.cell p ty, .tmp u]) (tmps : Array Value) (w : World) (g : Nat) (T : TypeId) (cs : Array Value) (fr : Nat × Nat) (d : TypeDesc)
    (hp : tmps.getD p undef = .pointer (some ⟨g, 0, none⟩)) (hg : w.heap[g]? = some (.cells cs T fr))
    (hu : P.underlying ty = some d) (hd : (match d with | .struct _ | .array _ _ => true | _ => false) = true) (hi : (P.info? ty).map (·.size) = some cs.size) :
    (results fn tmps).run P w = .ok (.tuple #[.agg cs, tmps.getD u undef]) w := by
  have hp' : tmps[p]?.getD undef = .pointer (some ⟨g, 0, none⟩) := by simpa using hp
  simp [results, h, hp', asAddr, run_loadVar_row w g T ty cs fr d hg hu hd hi]
theorem int_ne0 {z : Nat} (h : 2 ≤ z) : ((z : Int) == 0) = false := by simp; omega
theorem pt_num_lt {xs : List UInt8} {t : Fld} (h : pt xs = some t) (hr : runOk 0 xs = true) : t.num < 18446744073709551616 := by
  cases hv : vi xs with
  | none => rw [pt_none1 hv] at h; cases h
  | some p =>
    obtain ⟨key, k⟩ := p
    cases hw : vi (xs.drop k) with
    | none => rw [pt_none2 hv hw] at h; cases h
    | some q =>
      obtain ⟨n, m⟩ := q
      have hs := (vi_small hw (runOk_drop hr k)).1
      by_cases h8 : key % 8 = 0
      · rw [pt_num hv hw h8] at h
        obtain rfl := Option.some.inj h
        exact Nat.lt_trans hs (by decide)
      · by_cases h9 : key % 8 = 2
        · by_cases hn : n ≤ xs.length - k - m
          · rw [pt_bytes hv hw h9 hn] at h
            obtain rfl := Option.some.inj h
            show 0 < _
            decide
          · rw [pt_long hv hw h9 hn] at h; cases h
        · rw [pt_other hv hw h8 h9] at h; cases h
theorem tail_slice {w : World} {B n c k : Nat} {b o : Nat} {l : List UInt8} (h : Reads w B 1 (some ⟨b, o, none⟩) n (u8s l)) (hk : k ≤ n) (hnc : n ≤ c) : ∃ A2, (if c = k then some ⟨b, o, none⟩ else some ⟨b, o + k, none⟩ : Option Addr) = A2 ∧ Reads w B 1 A2 (n - k) (u8s (l.drop k)) := ⟨_, rfl, cut_slice h hk hnc⟩
/-- The local struct, the result's cell, the row of the hash. -/
structure MRepL (w : World) (lo bx br : Nat) (st : PLk) (vh : Value) : Prop where
  blk : Blk w bx 53 #[.bool st.hh, .bool st.hn, .bool st.hs, vh, .string st.name, .int .u64 (st.size : Int)]
  res : Blk w br 53 #[.bool false, .bool false, .bool false, .slice none 0 0, .string ByteArray.empty, .int .u64 0]
  hash : w.ownsRow lo 5 1 vh st.hash.length (u8s st.hash)
  hx : bx < lo
  hr : br < bx
  ok : st.size < 18446744073709551616
section
variable {w w' : World} {lo bx br : Nat} {st : PLk} {vh : Value}
theorem MRepL.drewN (h : MRepL w lo bx br st vh) (j : Nat) : MRepL (w.drewN j) lo bx br st vh := ⟨h.blk, h.res, h.hash, h.hx, h.hr, h.ok⟩
theorem MRepL.drew (h : MRepL w lo bx br st vh) : MRepL w.drew lo bx br st vh := ⟨h.blk, h.res, h.hash, h.hx, h.hr, h.ok⟩
theorem MRepL.below (h : MRepL w lo bx br st vh) (hb : Below w.heap.size w w') : MRepL w' lo bx br st vh :=
  ⟨h.blk.below hb h.blk.lt, h.res.below hb h.res.lt, own_below h.hash hb, h.hx, h.hr, h.ok⟩
/-- Two cells of the local struct are written. -/
theorem MRepL.two (h : MRepL w lo bx br st vh) (i j : Nat) (u v : Value) : let W := (w.setCell ⟨bx, i, none⟩ u).setCell ⟨bx, j, none⟩ v
    Blk W bx 53 ((#[.bool st.hh, .bool st.hn, .bool st.hs, vh, .string st.name, .int .u64 (st.size : Int)].setIfInBounds i u).setIfInBounds j v) ∧ Blk W br 53 #[.bool false, .bool false, .bool false, .slice none 0 0, .string ByteArray.empty, .int .u64 0] ∧ W.ownsRow lo 5 1 vh st.hash.length (u8s st.hash) := by
  have h1 := h.hx
  have h2 := h.hr
  exact ⟨(h.blk.set_ i u).set_ j v, (h.res.far (p := ⟨bx, i, none⟩) (by show br ≠ bx; omega) u).far (by show br ≠ bx; omega) v, own_far (own_far h.hash u (fun e => by have := own_base h.hash bx e; omega)) v (fun e => by have := own_base h.hash bx e; omega)⟩
theorem MRepL.setHash (h : MRepL w lo bx br st vh) (hb : Below w.heap.size w w') {d : List UInt8} {v : Value} {n : Nat} (hown : w'.ownsRow lo 5 1 v n (u8s d)) (hn : n = d.length) : MRepL ((w'.setCell ⟨bx, 0, none⟩ (.bool true)).setCell ⟨bx, 3, none⟩ v) lo bx br { st with hh := true, hash := d } v := by
  subst hn
  obtain ⟨a, b, -⟩ := (h.below hb).two 0 3 (.bool true) v
  have h1 := h.hx
  exact ⟨a, b, own_far (own_far hown _ (fun e => by have := own_base hown bx e; omega)) _ (fun e => by have := own_base hown bx e; omega), h.hx, h.hr, h.ok⟩
theorem MRepL.setName (h : MRepL w lo bx br st vh) (s : ByteArray) : MRepL ((w.setCell ⟨bx, 1, none⟩ (.bool true)).setCell ⟨bx, 4, none⟩ (.string s)) lo bx br { st with hn := true, name := s } vh := by
  obtain ⟨a, b, c⟩ := h.two 1 4 (.bool true) (.string s)
  exact ⟨a, b, c, h.hx, h.hr, h.ok⟩
theorem MRepL.setName' (h : MRepL w lo bx br st vh) (s : ByteArray) : MRepL ((w.setCell ⟨bx, 4, none⟩ (.string s)).setCell ⟨bx, 1, none⟩ (.bool true)) lo bx br { st with hn := true, name := s } vh := by
  obtain ⟨a, b, c⟩ := h.two 4 1 (.string s) (.bool true)
  exact ⟨a, b, c, h.hx, h.hr, h.ok⟩
theorem MRepL.setSize (h : MRepL w lo bx br st vh) (x : Nat) (hx : x < 18446744073709551616) : MRepL ((w.setCell ⟨bx, 2, none⟩ (.bool true)).setCell ⟨bx, 5, none⟩ (.int .u64 (x : Int))) lo bx br { st with hs := true, size := x } vh := by
  obtain ⟨a, b, c⟩ := h.two 2 5 (.bool true) (.int .u64 (x : Int))
  exact ⟨a, b, c, h.hx, h.hr, hx⟩
end
/-- What PbLinkOf hands back. -/
structure LoIs (w : World) (R : Option PLk) (e : Ending) (w' : World) : Prop where
  below : Below w.heap.size w w'
  ret : (∃ st A c, R = some st ∧ e = .returned (.tuple #[.agg #[.bool st.hh, .bool st.hn, .bool st.hs, .slice A st.hash.length c, .string st.name, .int .u64 (st.size : Int)], .bool true]) ∧ w'.ownsRow w.heap.size 5 1 (.slice A st.hash.length c) st.hash.length (u8s st.hash) ∧ st.size < 18446744073709551616) ∨
    (R = none ∧ e = .returned (.tuple #[.agg #[.bool false, .bool false, .bool false, .slice none 0 0, .string ByteArray.empty, .int .u64 0], .bool false]))
/-- The result's cell, written. -/
theorem six_set {w : World} {g : Nat} {c0 c1 c2 c3 c4 c5 : Value} (h : Blk w g 53 #[c0, c1, c2, c3, c4, c5]) (v0 v1 v2 v3 v4 v5 : Value) :
    Blk ((((((w.setCell ⟨g, 0, none⟩ v0).setCell ⟨g, 1, none⟩ v1).setCell ⟨g, 2, none⟩ v2).setCell ⟨g, 3, none⟩ v3).setCell ⟨g, 4, none⟩ v4).setCell ⟨g, 5, none⟩ v5) g 53 #[v0, v1, v2, v3, v4, v5] :=
  (((((h.set_ 0 v0).set_ 1 v1).set_ 2 v2).set_ 3 v3).set_ 4 v4).set_ 5 v5
theorem six_below {B : Nat} {a w : World} {g : Nat} (h : Below B a w) (hg : B ≤ g) (v0 v1 v2 v3 v4 v5 : Value) :
    Below B a ((((((w.setCell ⟨g, 0, none⟩ v0).setCell ⟨g, 1, none⟩ v1).setCell ⟨g, 2, none⟩ v2).setCell ⟨g, 3, none⟩ v3).setCell ⟨g, 4, none⟩ v4).setCell ⟨g, 5, none⟩ v5) :=
  (((((h.setCell hg v0).setCell hg v1).setCell hg v2).setCell hg v3).setCell hg v4).setCell hg v5
theorem own_six {w : World} {base size n g : Nat} {e : TypeId} {v : Value} {xs : List Value} (h : w.ownsRow base e size v n xs) (hg : v.ownBlock ≠ some g) (v0 v1 v2 v3 v4 v5 : Value) :
    ((((((w.setCell ⟨g, 0, none⟩ v0).setCell ⟨g, 1, none⟩ v1).setCell ⟨g, 2, none⟩ v2).setCell ⟨g, 3, none⟩ v3).setCell ⟨g, 4, none⟩ v4).setCell ⟨g, 5, none⟩ v5).ownsRow base e size v n xs :=
  own_far (own_far (own_far (own_far (own_far (own_far h v0 hg) v1 hg) v2 hg) v3 hg) v4 hg) v5 hg
theorem conv_reads {w : World} {B n c : Nat} {A : Option Addr} {l : List UInt8} (h : Reads w B 1 A n (u8s l)) : (convert 22 9 (.slice A n c)).run Tryd.prog w = .ok (.string ⟨l.toArray⟩) w :=
  run_convert_reads (P := Tryd.prog) w 22 5 Tryd.underlying22 Tryd.underlying5 B A n c l h 9 Tryd.underlying9
set_option maxRecDepth 100000 in
set_option maxHeartbeats 40000000 in
theorem linkOf_any (A : Option Addr) (n c B : Nat) (l : List UInt8) (w : World) (hr : Reads w B 1 A n (u8s l)) (hB : B ≤ w.heap.size) (hnc : n ≤ c) (hn : c ≤ 9223372036854775807) (hn2 : n ≤ 1000000) (hrun : runOk 0 l = true) (hkn : OursL l) :
    Calls Tryd.prog 20 #[.slice A n c] w (LoIs w (linkOf l)) := by
  have hln : l.length = n := by have := hr.1; rw [u8s_length] at this; omega
  obtain ⟨R, hR⟩ : ∃ R, fd upL l.length PLk.zero l = R := ⟨_, rfl⟩
  rw [show linkOf l = R from hR]
  have HM0 : Hid (MRepL ((w.alloc (.cells #[.bool false, .bool false, .bool false, .slice none 0 0, .string ByteArray.empty, .int .u64 0] 53)).alloc (.cells #[.bool false, .bool false, .bool false, .slice none 0 0, .string ByteArray.empty, .int .u64 0] 53)) (w.heap.size + 2) (w.heap.size + 1) w.heap.size PLk.zero (.slice none 0 0)) := by
    have h1 := Blk.new (w.alloc (.cells #[.bool false, .bool false, .bool false, .slice none 0 0, .string ByteArray.empty, .int .u64 0] 53)) 53 #[.bool false, .bool false, .bool false, .slice none 0 0, .string ByteArray.empty, .int .u64 0]
    rw [World.size_alloc] at h1
    exact ⟨h1, (Blk.new w _ _).alloc _, World.ownsRow_nil _ _ _ _, by omega, by omega, by decide⟩
  have HB0 := Lib.hid (below_alloc (below_one w (.cells #[.bool false, .bool false, .bool false, .slice none 0 0, .string ByteArray.empty, .int .u64 0] 53)) (.cells #[.bool false, .bool false, .bool false, .slice none 0 0, .string ByteArray.empty, .int .u64 0] 53))
  have HR := Lib.hid hr
  have HLN := Lib.hid hln
  have HRUN := Lib.hid hrun
  have HKN := Lib.hid hkn
  have HMS := Lib.hid hR
  clear hr hln hrun hkn hR
  go_enter Tryd.func20, Tryd.ntmps20
  go_wp2
  go_loopg [0] l.length (fun k vs wr => ∃ (i : Nat) (A2 : Option Addr) (nx c2 : Nat) (st : PLk) (vh : Value), vs = .slice A2 nx c2 ∧ nx ≤ c2 ∧ c2 ≤ 9223372036854775807 ∧ Hid ((l.drop i).length = nx) ∧ Hid (Reads w B 1 A2 nx (u8s (l.drop i))) ∧ Hid (nx ≤ k) ∧ Hid (MRepL wr (w.heap.size + 2) (w.heap.size + 1) w.heap.size st vh) ∧ Hid (Below w.heap.size w wr) ∧ Hid (fd upL k st (l.drop i) = R) ∧ Hid (OursL (l.drop i)) ∧ Hid (i ≤ n))
  case atStart => exact ⟨0, A, n, c, PLk.zero, _, rfl, hnc, hn, by rw [List.drop_zero]; exact HLN.out, by rw [List.drop_zero]; exact HR.out, by rw [HLN.out]; exact Nat.le_refl _, HM0.out, HB0.out, HMS.out, HKN.out, Nat.zero_le _⟩
  case round =>
    obtain ⟨i, A2, nx, c2, st, vh, rfl, hle, hc2, HL2, HR2, HK2, HM, HBL, HS, HKn, HIN⟩ := hrel
    have hrun2 := Lib.hid (runOk_drop HRUN.out i)
    generalize hxs : l.drop i = xs at *
    have HXS := Lib.hid hxs
    clear hxs
    obtain ⟨Ad, cd, hvd, -, -⟩ := own_shape HM.out.hash
    obtain ⟨nd, hnd⟩ : ∃ nd, st.hash.length = nd := ⟨_, rfl⟩
    rw [hnd] at hvd
    subst hvd
    have HND := Lib.hid hnd
    clear hnd
    have hbx := HM.out.blk.lt
    have hbr := HM.out.res.lt
    have kx0 := HM.out.blk.cell 0
    have kx1 := HM.out.blk.cell 1
    have kx2 := HM.out.blk.cell 2
    have kx3 := HM.out.blk.cell 3
    have kx4 := HM.out.blk.cell 4
    have kx5 := HM.out.blk.cell 5
    have fx := HM.out.blk.frozen
    have kr0 := HM.out.res.cell 0
    have kr1 := HM.out.res.cell 1
    have kr2 := HM.out.res.cell 2
    have kr3 := HM.out.res.cell 3
    have kr4 := HM.out.res.cell 4
    have kr5 := HM.out.res.cell 5
    have fr := HM.out.res.frozen
    by_cases h0 : nx = 0
    · subst h0
      have hx : xs = [] := List.eq_nil_of_length_eq_zero HL2.out
      have HRS : Hid (R = some st) := by have h := HS.out; rw [hx, fd_nil] at h; exact h.symm
      clear hx
      have H1 : Hid (wr.ownsRow w.heap.size 5 1 (.slice Ad nd cd) st.hash.length (u8s st.hash)) := own_more HM.out.hash (Nat.le_add_right _ 2)
      have H2 : Hid ((Value.slice Ad nd cd).ownBlock ≠ some w.heap.size) := fun e => by have := own_base HM.out.hash _ e; omega
      go_wp2
      (try simp only [Exit.inBlock, Exit.then])
      refine bodyPost_ret (results_cell_then rfl _ _ _ _ _ _ _ rfl (six_set HM.out.res (.bool st.hh) (.bool st.hn) (.bool st.hs) (.slice Ad nd cd) (.string st.name) (.int .u64 (st.size : Int))) Tryd.underlying53 rfl (by kernel_rfl)) rfl ?_
      exact ⟨six_below HBL.out (Nat.le_refl _) _ _ _ _ _ _, .inl ⟨st, Ad, cd, HRS.out, by rw [HND.out]; rfl, by rw [HND.out]; have h := own_six H1.out H2.out (.bool st.hh) (.bool st.hn) (.bool st.hs) (.slice Ad nd cd) (.string st.name) (.int .u64 (st.size : Int)); rw [HND.out] at h; exact h, HM.out.ok⟩⟩
    · have hpos : 0 < nx := by omega
      obtain ⟨b2, o2, rfl, -, -⟩ := HR2.out.lit hpos
      have hRr := (HR2.out.more hB).below HBL.out
      have HRr := Lib.hid hRr
      have HT := Lib.hid (pbTake_any (some ⟨b2, o2, none⟩) nx c2 w.heap.size xs wr hRr hle hc2 hrun2.out)
      clear hRr
      cases hp : pt xs with
      | none =>
        have HRN : Hid (R = none) := HS.out.symm.trans (fd_torn hp (by rw [HL2.out]; exact hpos) (by rw [HL2.out]; exact HK2.out))
        replace HT : Hid (Calls Tryd.prog 15 #[.slice (some ⟨b2, o2, none⟩) nx c2] wr fun e w' => e = .returned (.tuple #[.int .u64 0, .int .i64 0, .int .u64 0, .slice none 0 0, .int .i64 0]) ∧ ∃ j, w' = wr.drewN j) := HT.out.mono (by
          rintro e w' ⟨⟨v, rfl, h | ⟨t, A3, c3, h, -⟩⟩, j3, rfl⟩
          · exact ⟨by rw [h.2]; rfl, _, rfl⟩
          · rw [hp] at h; cases h)
        clear hp
        go_wp2_with (first | (go_at_call 15; refine HT.out.mono ?_; clear HT; rintro e w1 ⟨rfl, j3, rfl⟩) | fail)
        (try simp only [Exit.inBlock, Exit.then])
        refine bodyPost_ret (results_cell_then rfl _ _ _ _ _ _ _ rfl (six_set (HM.out.res.drewN j3) (.bool false) (.bool false) (.bool false) (.slice none 0 0) (.string ByteArray.empty) (.int .u64 0)) Tryd.underlying53 rfl (by kernel_rfl)) rfl ?_
        exact ⟨six_below (below_drewN HBL.out j3) (Nat.le_refl _) _ _ _ _ _ _, .inr ⟨HRN.out, rfl⟩⟩
      | some t =>
        have hts := pt_size hp
        rw [HL2.out] at hts
        obtain ⟨key, k, hv⟩ : ∃ key k, vi xs = some (key, k) := by
          cases e : vi xs with
          | none => rw [pt_none1 e] at hp; cases hp
          | some q => exact ⟨q.1, q.2, rfl⟩
        obtain ⟨hko, hks⟩ := Ours.key HKn.out hv
        obtain ⟨sh1, sh2⟩ := pt_shape hp hv
        have HKN2 : Hid (OursL (xs.drop t.size)) := (hks t hp).2
        have hcs := tail_slice HR2.out hts.2 hle
        have HPT := Lib.hid hp
        have HNL := Lib.hid (pt_num_lt hp hrun2.out)
        replace HT : Hid (Calls Tryd.prog 15 #[.slice (some ⟨b2, o2, none⟩) nx c2] wr fun e w' => (∃ A3 n3 c3, e = .returned (.tuple #[.int .u64 (t.at_ : Nat), .int .i64 (t.kind : Nat), .int .u64 (t.num : Nat), .slice A3 n3 c3, .int .i64 (t.size : Nat)]) ∧ Hid (n3 ≤ c3 ∧ t.val.length = n3 ∧ Reads wr w.heap.size 1 A3 n3 (u8s t.val))) ∧ ∃ j, w' = wr.drewN j) := HT.out.mono (by
          rintro e w' ⟨⟨v, rfl, h | ⟨t', A3, c3, h, hv3, hle3, hr3, -⟩⟩, j3, rfl⟩
          · rw [hp] at h; cases h.1
          · rw [hp] at h
            obtain rfl := Option.some.inj h
            exact ⟨⟨A3, _, c3, by rw [hv3], hle3, rfl, hr3⟩, _, rfl⟩)
        have HUP : Hid (∀ st', upL st t = some st' → fd upL (gk - 1) st' (xs.drop t.size) = R) := fun st' hu => by
          have h1 := HK2.out
          obtain ⟨f, rfl⟩ : ∃ f, gk = f + 1 := ⟨gk - 1, by omega⟩
          have h := HS.out
          rw [fd_step hp hu (by rw [HL2.out]; exact h1)] at h
          exact h
        have HUN : Hid (upL st t = none → R = none) := fun hu => HS.out.symm.trans (fd_bad hp hu (by rw [HL2.out]; exact HK2.out))
        obtain ⟨A4, hA4, hr4⟩ := hcs
        have HR4 := Lib.hid hr4
        have HA4 := Lib.hid hA4
        have HXD : Hid (l.drop (i + t.size) = xs.drop t.size) := by show _ = _; rw [← HXS.out, List.drop_drop]
        clear hv hp hr4 hA4 hks
        have HVL : Hid (t.val.length ≤ 1000000) := by
          have h1 := pt_val HPT.out
          rw [HL2.out] at h1
          have h := HL2.out
          have h2 := congrArg List.length HXS.out
          rw [List.length_drop, HLN.out] at h2
          show _ ≤ _
          omega
        obtain ⟨ta, tk, tn, tv, tz⟩ := t
        simp only at sh1 sh2 hts HT HR4 HA4 HXD HKN2 HNL
        obtain ⟨hs1, hs2⟩ := hts
        have htz : ((tz : Int) == 0) = false := int_ne0 hs1
        have HSZ2 : Hid (i + 2 ≤ i + tz ∧ i + tz ≤ n) := by have h := HL2.out; have h2 := congrArg List.length HXS.out; rw [List.length_drop, HLN.out] at h2; show _ ∧ _; have := HIN.out; omega
        rcases hko with rfl | rfl | rfl | rfl | rfl | rfl
        · obtain rfl : ta = 1 := sh1
          obtain rfl : tk = 0 := sh2
          have HRN := Lib.hid (HUN.out rfl)
          go_wp2_with (first | (go_at_call 15; refine HT.out.mono ?_; clear HT; rintro e w1 ⟨⟨A3, n3, c3, rfl, HV3⟩, j3, rfl⟩) | fail)
          (try simp only [Exit.inBlock, Exit.then])
          refine bodyPost_ret (results_cell_then rfl _ _ _ _ _ _ _ rfl (six_set (HM.out.res.drewN j3) (.bool false) (.bool false) (.bool false) (.slice none 0 0) (.string ByteArray.empty) (.int .u64 0)) Tryd.underlying53 rfl (by kernel_rfl)) rfl ?_
          exact ⟨six_below (below_drewN HBL.out j3) (Nat.le_refl _) _ _ _ _ _ _, .inr ⟨HRN.out, rfl⟩⟩
        · obtain rfl : ta = 1 := sh1
          obtain rfl : tk = 2 := sh2
          obtain ⟨i0, hi, hz0, hz1, hz2⟩ := info_parts infoU8
          by_cases hcz : c2 = tz
          · have hA := HA4.out
            rw [if_pos hcz] at hA
            subst hA
            have hczT := eq_true hcz
            clear hcz
            go_wp2_with (first | (go_at_call 15; refine HT.out.mono ?_; clear HT; rintro e w1 ⟨⟨A3, n3, c3, rfl, HV3⟩, j3, rfl⟩; have HRV := Lib.hid ((HV3.out.2.2.drewN j3).alloc (Nat.le_of_lt hbr) (.cells #[] 5)); have HOV := Lib.hid (World.ownsRow_made (base := w.heap.size + 2) (e := 5) (size := 1) (wr.drewN j3) #[] 0 hbx (by unfold maxLen; omega) rfl); have HN3 : Hid (n3 ≤ 1000000) := HV3.out.2.1 ▸ HVL.out) | (at_builtin; refine wpList_append_any _ rfl (.tmp 34) (.tmp 35) 22 rfl (w.heap.size + 2) 5 i0 (.int .u8 0) 1 1 Tryd.underlying22 hi hz0 hz1 hz2 rfl (by decide) _ 0 _ rfl HOV.out w.heap.size A3 n3 c3 _ rfl HRV.out (u8s_one _) (le_max HN3.out) (le_47 HN3.out) (by simp; exact Nat.le_of_lt hbx) ?_; rintro v3 w3 hown3 hg3 - -; obtain ⟨A9, c9, rfl, -, -⟩ := own_shape hown3; have HO3 := Lib.hid hown3; have HB3 : Hid (Below (wr.drewN j3).heap.size (wr.drewN j3) w3) := (below_one (wr.drewN j3) (.cells #[] 5)).grown hg3 (by simp) (fun k e => by cases e; exact Nat.le_refl _); have k0 : w3.cell? ⟨w.heap.size + 1, 0, none⟩ = some (.bool st.hh) := ((HM.out.drewN j3).below HB3.out).blk.cell 0; have k3 : w3.cell? ⟨w.heap.size + 1, 3, none⟩ = some (.slice Ad nd cd) := ((HM.out.drewN j3).below HB3.out).blk.cell 3; have kf := ((HM.out.drewN j3).below HB3.out).blk.frozen; clear hown3 hg3) | fail)
            go_roundg (gk - 1)
            case measure => have := HK2.out; omega
            case rel => exact ⟨i + tz, _, nx - tz, c2 - tz, { st with hh := true, hash := tv }, _, rfl, by omega, by omega, by show _ = _; rw [HXD.out, List.length_drop, HL2.out], by rw [HXD.out]; exact HR4.out, by have := HK2.out; show _ ≤ _; omega, (HM.out.drewN j3).setHash HB3.out (d := tv) (n := n3) (by have h := HO3.out; rw [List.nil_append, Nat.zero_add] at h; exact h) HV3.out.2.1.symm, ((below_then (below_drewN HBL.out j3) (Nat.le_of_lt hbr) HB3.out).setCell (Nat.le_of_lt (Nat.lt_succ_self _)) _).setCell (Nat.le_of_lt (Nat.lt_succ_self _)) _, by rw [HXD.out]; exact HUP.out _ rfl, by rw [HXD.out]; exact HKN2.out, HSZ2.out.2⟩
          · have hA := HA4.out
            rw [if_neg hcz] at hA
            subst hA
            go_wp2_with (first | (go_at_call 15; refine HT.out.mono ?_; clear HT; rintro e w1 ⟨⟨A3, n3, c3, rfl, HV3⟩, j3, rfl⟩; have HRV := Lib.hid ((HV3.out.2.2.drewN j3).alloc (Nat.le_of_lt hbr) (.cells #[] 5)); have HOV := Lib.hid (World.ownsRow_made (base := w.heap.size + 2) (e := 5) (size := 1) (wr.drewN j3) #[] 0 hbx (by unfold maxLen; omega) rfl); have HN3 : Hid (n3 ≤ 1000000) := HV3.out.2.1 ▸ HVL.out) | (at_builtin; refine wpList_append_any _ rfl (.tmp 34) (.tmp 35) 22 rfl (w.heap.size + 2) 5 i0 (.int .u8 0) 1 1 Tryd.underlying22 hi hz0 hz1 hz2 rfl (by decide) _ 0 _ rfl HOV.out w.heap.size A3 n3 c3 _ rfl HRV.out (u8s_one _) (le_max HN3.out) (le_47 HN3.out) (by simp; exact Nat.le_of_lt hbx) ?_; rintro v3 w3 hown3 hg3 - -; obtain ⟨A9, c9, rfl, -, -⟩ := own_shape hown3; have HO3 := Lib.hid hown3; have HB3 : Hid (Below (wr.drewN j3).heap.size (wr.drewN j3) w3) := (below_one (wr.drewN j3) (.cells #[] 5)).grown hg3 (by simp) (fun k e => by cases e; exact Nat.le_refl _); have k0 : w3.cell? ⟨w.heap.size + 1, 0, none⟩ = some (.bool st.hh) := ((HM.out.drewN j3).below HB3.out).blk.cell 0; have k3 : w3.cell? ⟨w.heap.size + 1, 3, none⟩ = some (.slice Ad nd cd) := ((HM.out.drewN j3).below HB3.out).blk.cell 3; have kf := ((HM.out.drewN j3).below HB3.out).blk.frozen; clear hown3 hg3) | fail)
            go_roundg (gk - 1)
            case measure => have := HK2.out; omega
            case rel => exact ⟨i + tz, _, nx - tz, c2 - tz, { st with hh := true, hash := tv }, _, rfl, by omega, by omega, by show _ = _; rw [HXD.out, List.length_drop, HL2.out], by rw [HXD.out]; exact HR4.out, by have := HK2.out; show _ ≤ _; omega, (HM.out.drewN j3).setHash HB3.out (d := tv) (n := n3) (by have h := HO3.out; rw [List.nil_append, Nat.zero_add] at h; exact h) HV3.out.2.1.symm, ((below_then (below_drewN HBL.out j3) (Nat.le_of_lt hbr) HB3.out).setCell (Nat.le_of_lt (Nat.lt_succ_self _)) _).setCell (Nat.le_of_lt (Nat.lt_succ_self _)) _, by rw [HXD.out]; exact HUP.out _ rfl, by rw [HXD.out]; exact HKN2.out, HSZ2.out.2⟩
        · obtain rfl : ta = 2 := sh1
          obtain rfl : tk = 0 := sh2
          have HRN := Lib.hid (HUN.out rfl)
          go_wp2_with (first | (go_at_call 15; refine HT.out.mono ?_; clear HT; rintro e w1 ⟨⟨A3, n3, c3, rfl, HV3⟩, j3, rfl⟩) | fail)
          (try simp only [Exit.inBlock, Exit.then])
          refine bodyPost_ret (results_cell_then rfl _ _ _ _ _ _ _ rfl (six_set (HM.out.res.drewN j3) (.bool false) (.bool false) (.bool false) (.slice none 0 0) (.string ByteArray.empty) (.int .u64 0)) Tryd.underlying53 rfl (by kernel_rfl)) rfl ?_
          exact ⟨six_below (below_drewN HBL.out j3) (Nat.le_refl _) _ _ _ _ _ _, .inr ⟨HRN.out, rfl⟩⟩
        · obtain rfl : ta = 2 := sh1
          obtain rfl : tk = 2 := sh2
          by_cases hcz : c2 = tz
          · have hA := HA4.out
            rw [if_pos hcz] at hA
            subst hA
            have hczT := eq_true hcz
            clear hcz
            go_upto_region 10 with (first | (go_at_call 15; refine HT.out.mono ?_; clear HT; rintro e w1 ⟨⟨A3, n3, c3, rfl, HV3⟩, j3, rfl⟩; have HR0 := Lib.hid (HV3.out.2.2.drewN j3); have kcv := conv_reads (c := c3) HR0.out) | fail)
            have HMJ := Lib.hid (HM.out.drewN j3).drew
            have q1 := HMJ.out.blk.cell 1
            have q4 := HMJ.out.blk.cell 4
            have qf := HMJ.out.blk.frozen
            go_region_held3 (fun w' => Reads w' w.heap.size 1 A3 n3 (u8s tv) ∧ (convert 22 9 (.slice A3 n3 c3)).run Tryd.prog w' = .ok (.string ⟨tv.toArray⟩) w') (first | exact ⟨HR0.out, kcv⟩ | exact ⟨HR0.out.drew, conv_reads HR0.out.drew⟩ | exact ⟨HR0.out.drew.setCell (Nat.le_of_lt (Nat.lt_succ_self _)) _, conv_reads (HR0.out.drew.setCell (Nat.le_of_lt (Nat.lt_succ_self _)) _)⟩ | exact ⟨(HR0.out.drew.setCell (Nat.le_of_lt (Nat.lt_succ_self _)) _).setCell (Nat.le_of_lt (Nat.lt_succ_self _)) _, conv_reads ((HR0.out.drew.setCell (Nat.le_of_lt (Nat.lt_succ_self _)) _).setCell (Nat.le_of_lt (Nat.lt_succ_self _)) _)⟩) (fail)
            all_goals
              go_wp2
              go_roundg (gk - 1)
              case measure => have := HK2.out; omega
              case rel => first | exact ⟨i + tz, _, nx - tz, c2 - tz, { st with hn := true, name := ⟨tv.toArray⟩ }, _, rfl, by omega, by omega, by show _ = _; rw [HXD.out, List.length_drop, HL2.out], by rw [HXD.out]; exact HR4.out, by have := HK2.out; show _ ≤ _; omega, HMJ.out.setName _, ((below_drewN (below_drewN HBL.out j3) 1).setCell (Nat.le_of_lt (Nat.lt_succ_self _)) _).setCell (Nat.le_of_lt (Nat.lt_succ_self _)) _, by rw [HXD.out]; exact HUP.out _ rfl, by rw [HXD.out]; exact HKN2.out, HSZ2.out.2⟩ | exact ⟨i + tz, _, nx - tz, c2 - tz, { st with hn := true, name := ⟨tv.toArray⟩ }, _, rfl, by omega, by omega, by show _ = _; rw [HXD.out, List.length_drop, HL2.out], by rw [HXD.out]; exact HR4.out, by have := HK2.out; show _ ≤ _; omega, HMJ.out.setName' _, ((below_drewN (below_drewN HBL.out j3) 1).setCell (Nat.le_of_lt (Nat.lt_succ_self _)) _).setCell (Nat.le_of_lt (Nat.lt_succ_self _)) _, by rw [HXD.out]; exact HUP.out _ rfl, by rw [HXD.out]; exact HKN2.out, HSZ2.out.2⟩
          · have hA := HA4.out
            rw [if_neg hcz] at hA
            subst hA
            go_upto_region 10 with (first | (go_at_call 15; refine HT.out.mono ?_; clear HT; rintro e w1 ⟨⟨A3, n3, c3, rfl, HV3⟩, j3, rfl⟩; have HR0 := Lib.hid (HV3.out.2.2.drewN j3); have kcv := conv_reads (c := c3) HR0.out) | fail)
            have HMJ := Lib.hid (HM.out.drewN j3).drew
            have q1 := HMJ.out.blk.cell 1
            have q4 := HMJ.out.blk.cell 4
            have qf := HMJ.out.blk.frozen
            go_region_held3 (fun w' => Reads w' w.heap.size 1 A3 n3 (u8s tv) ∧ (convert 22 9 (.slice A3 n3 c3)).run Tryd.prog w' = .ok (.string ⟨tv.toArray⟩) w') (first | exact ⟨HR0.out, kcv⟩ | exact ⟨HR0.out.drew, conv_reads HR0.out.drew⟩ | exact ⟨HR0.out.drew.setCell (Nat.le_of_lt (Nat.lt_succ_self _)) _, conv_reads (HR0.out.drew.setCell (Nat.le_of_lt (Nat.lt_succ_self _)) _)⟩ | exact ⟨(HR0.out.drew.setCell (Nat.le_of_lt (Nat.lt_succ_self _)) _).setCell (Nat.le_of_lt (Nat.lt_succ_self _)) _, conv_reads ((HR0.out.drew.setCell (Nat.le_of_lt (Nat.lt_succ_self _)) _).setCell (Nat.le_of_lt (Nat.lt_succ_self _)) _)⟩) (fail)
            all_goals
              go_wp2
              go_roundg (gk - 1)
              case measure => have := HK2.out; omega
              case rel => first | exact ⟨i + tz, _, nx - tz, c2 - tz, { st with hn := true, name := ⟨tv.toArray⟩ }, _, rfl, by omega, by omega, by show _ = _; rw [HXD.out, List.length_drop, HL2.out], by rw [HXD.out]; exact HR4.out, by have := HK2.out; show _ ≤ _; omega, HMJ.out.setName _, ((below_drewN (below_drewN HBL.out j3) 1).setCell (Nat.le_of_lt (Nat.lt_succ_self _)) _).setCell (Nat.le_of_lt (Nat.lt_succ_self _)) _, by rw [HXD.out]; exact HUP.out _ rfl, by rw [HXD.out]; exact HKN2.out, HSZ2.out.2⟩ | exact ⟨i + tz, _, nx - tz, c2 - tz, { st with hn := true, name := ⟨tv.toArray⟩ }, _, rfl, by omega, by omega, by show _ = _; rw [HXD.out, List.length_drop, HL2.out], by rw [HXD.out]; exact HR4.out, by have := HK2.out; show _ ≤ _; omega, HMJ.out.setName' _, ((below_drewN (below_drewN HBL.out j3) 1).setCell (Nat.le_of_lt (Nat.lt_succ_self _)) _).setCell (Nat.le_of_lt (Nat.lt_succ_self _)) _, by rw [HXD.out]; exact HUP.out _ rfl, by rw [HXD.out]; exact HKN2.out, HSZ2.out.2⟩
        · obtain rfl : ta = 3 := sh1
          obtain rfl : tk = 0 := sh2
          by_cases hcz : c2 = tz
          · have hA := HA4.out
            rw [if_pos hcz] at hA
            subst hA
            have hczT := eq_true hcz
            clear hcz
            go_wp2_with (first | (go_at_call 15; refine HT.out.mono ?_; clear HT; rintro e w1 ⟨⟨A3, n3, c3, rfl, HV3⟩, j3, rfl⟩) | fail)
            go_roundg (gk - 1)
            case measure => have := HK2.out; omega
            case rel => exact ⟨i + tz, _, nx - tz, c2 - tz, { st with hs := true, size := tn }, _, rfl, by omega, by omega, by show _ = _; rw [HXD.out, List.length_drop, HL2.out], by rw [HXD.out]; exact HR4.out, by have := HK2.out; show _ ≤ _; omega, (HM.out.drewN j3).setSize tn HNL.out, ((below_drewN HBL.out j3).setCell (Nat.le_of_lt (Nat.lt_succ_self _)) _).setCell (Nat.le_of_lt (Nat.lt_succ_self _)) _, by rw [HXD.out]; exact HUP.out _ rfl, by rw [HXD.out]; exact HKN2.out, HSZ2.out.2⟩
          · have hA := HA4.out
            rw [if_neg hcz] at hA
            subst hA
            go_wp2_with (first | (go_at_call 15; refine HT.out.mono ?_; clear HT; rintro e w1 ⟨⟨A3, n3, c3, rfl, HV3⟩, j3, rfl⟩) | fail)
            go_roundg (gk - 1)
            case measure => have := HK2.out; omega
            case rel => exact ⟨i + tz, _, nx - tz, c2 - tz, { st with hs := true, size := tn }, _, rfl, by omega, by omega, by show _ = _; rw [HXD.out, List.length_drop, HL2.out], by rw [HXD.out]; exact HR4.out, by have := HK2.out; show _ ≤ _; omega, (HM.out.drewN j3).setSize tn HNL.out, ((below_drewN HBL.out j3).setCell (Nat.le_of_lt (Nat.lt_succ_self _)) _).setCell (Nat.le_of_lt (Nat.lt_succ_self _)) _, by rw [HXD.out]; exact HUP.out _ rfl, by rw [HXD.out]; exact HKN2.out, HSZ2.out.2⟩
        · obtain rfl : ta = 3 := sh1
          obtain rfl : tk = 2 := sh2
          have HRN := Lib.hid (HUN.out rfl)
          go_wp2_with (first | (go_at_call 15; refine HT.out.mono ?_; clear HT; rintro e w1 ⟨⟨A3, n3, c3, rfl, HV3⟩, j3, rfl⟩) | fail)
          (try simp only [Exit.inBlock, Exit.then])
          refine bodyPost_ret (results_cell_then rfl _ _ _ _ _ _ _ rfl (six_set (HM.out.res.drewN j3) (.bool false) (.bool false) (.bool false) (.slice none 0 0) (.string ByteArray.empty) (.int .u64 0)) Tryd.underlying53 rfl (by kernel_rfl)) rfl ?_
          exact ⟨six_below (below_drewN HBL.out j3) (Nat.le_refl _) _ _ _ _ _ _, .inr ⟨HRN.out, rfl⟩⟩
end Go.Proofs.YthgbhaackihbjaaDoor
