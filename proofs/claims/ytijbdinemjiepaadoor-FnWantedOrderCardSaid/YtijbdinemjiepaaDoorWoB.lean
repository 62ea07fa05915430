/- The law FnWantedOrder. -/
import Derived.Deep.RegionHeld3
import Derived.BigQuiet
import Derived.Test.YtijbdinemjiepaaDoorWoA
namespace Go.Proofs.YtijbdinemjiepaaDoor
open Go.RowKit

/-- Both rows, one behind the other. -/
structure CatR (W : World) (n : Nat) (l : List Wnt) (r : Ending) (W' : World) : Prop where
  ex : ∃ A c, r = .returned (.slice A n c) ∧ RowF W' 4 n (l.flatMap wntF) (.slice A n c)
  below : Below W.heap.size W W'
theorem cat_any {w W : World} {A B : Option Addr} {m n d e : Nat} {la lb : List Wnt} {xa xb : List Value} (h : AB w W (.slice A m d) (.slice B n e) la lb xa xb) (hm : la.length = m) (hn : lb.length = n) (h60 : m + n ≤ 100) :
    Calls Tryd.prog 23 #[.slice (some ⟨W.heap.size, 0, none⟩) 2 2] (W.alloc (.cells #[.slice A m d, .slice B n e] 46)) (CatR W (m + n) (la ++ lb)) := by
  have hb := below_one W (.cells #[.slice A m d, .slice B n e] 46)
  have ha := h.a.own
  have hbb := h.b.own
  rw [hm] at ha
  rw [hn] at hbb
  obtain ⟨_, _, e1, hd, _⟩ := own_shape ha
  injection e1 with e1 e2 e3
  subst e1 e3
  obtain ⟨_, _, e1, he, _⟩ := own_shape hbb
  injection e1 with e1 e2 e3
  subst e1 e3
  have hr := reads_lit W 46 [.slice A m d, .slice B n e]
  have hv := (((RowsV.nil W W.heap.size 4).cons (Reads.of_own hbb) he h.b.wr.frow.one).cons (Reads.of_own ha) hd h.a.wr.frow.one)
  refine (concatW _ 2 2 (W.heap.size + 1) (m + n) _ [(m, xa), (n, xb)] _ hr ?_ (by simp) (by simp) (by omega) (by omega)).mono ?_
  · exact ⟨hv.1, fun i zs hz => by
      obtain ⟨A', c', k1, k2, k3, k4⟩ := hv.2 i zs hz
      exact ⟨A', c', k1, k2, (k3.below hb).more (by omega), k4⟩⟩
  · rintro r w' ⟨⟨v, rfl, ho⟩, hb'⟩
    have hbw := below_then hb hb.size hb'
    obtain ⟨A', c', rfl, hc', hr'⟩ := own_shape ho
    have hx : [(m, xa), (n, xb)].map (·.2) = [xa, xb] := rfl
    rw [hx] at hr'
    have hfl : [xa, xb].flatten = xa ++ xb := by simp
    rw [hfl] at hr'
    exact ⟨⟨A', c', rfl, A', c', _, rfl, hc', hr', ((WR.append h.a.wr h.b.wr).turn (Turn.of_below hbw fun _ => False) (fun _ hk => hk.elim)).frow⟩, hbw⟩
theorem newL_ok (f : Nat → Nat) (ss : List Stp) : ∀ q ∈ newL f ss, q.kind ≤ 3 ∧ Castable q.ent.cid := by
  intro q hq
  obtain ⟨s, _, rfl⟩ := List.mem_map.1 hq
  exact ⟨by show s.kind % 4 ≤ 3; omega, castable_id _⟩
theorem all_small (l : List Wnt) : ∀ (i : Nat) (t : Tld), (wantedW l)[i]? = some t → t.all.length ≤ l.length := by
  intro i t h
  have hi : i < l.length := by
    have h1 := (List.getElem?_eq_some_iff.1 h).1
    have h2 := run_len (sortW (namesW l)) l ⟨fun _ => none, 0, []⟩
    unfold wantedW runW at h1
    rw [h2] at h1
    simpa using h1
  obtain ⟨c, hc⟩ := run_at (sortW (namesW l)) l ⟨fun _ => none, 0, []⟩ i _ (List.getElem?_eq_getElem hi)
  have e : (wantedW l)[i]? = _ := (by simpa [wantedW, runW] using hc)
  rw [h] at e
  injection e with e
  subst e
  have h1 := names_len l []
  have h2 := List.length_filterMap_le (foundW (stepW ((l.take i).foldl stepW fun _ => none) l[i])) (sortW (namesW l))
  have h3 : (sortW (namesW l)).length = (namesW l).length := by unfold sortW; exact List.length_mergeSort _
  rw [h3] at h2
  exact Nat.le_trans h2 (by simpa [namesW] using h1)
theorem bits_ev : ∀ k : Nat, k < 256 → bits .andNot .u8 (k : Int) 1 = ((evN k : Nat) : Int) := by decide +kernel
theorem bits_od : ∀ k : Nat, k < 256 → bits .or .u8 (k : Int) 1 = ((odN k : Nat) : Int) := by decide +kernel
set_option linter.unusedSimpArgs false in
set_option maxRecDepth 100000 in
set_option maxHeartbeats 16000000 in
theorem order_any (A1 A2 : Option Addr) (n1 n2 c1 c2 : Nat) (s1 s2 : List Stp) (w : World) (h1 : RowF w 4 n1 (s1.flatMap stpF) (.slice A1 n1 c1)) (h2 : RowF w 4 n2 (s2.flatMap stpF) (.slice A2 n2 c2)) (hl1 : s1.length = n1) (hl2 : s2.length = n2) (hm1 : n1 ≤ 9223372036854775807) (hm2 : n2 ≤ 9223372036854775807) (hk1 : ∀ s ∈ s1, s.kind < 256 ∧ s.cid < 256) (hk2 : ∀ s ∈ s2, s.kind < 256 ∧ s.cid < 256) :
    Calls Tryd.prog 5 #[.slice A1 n1 c1, .slice A2 n2 c2] w (YesB w) := by
  have LV := Lib.hid (fun W : World => listsLive_any W)
  by_cases b0 : n1 ≤ 2147483647
  case neg =>
    have g0 : (2147483647 : Int) < (n1 : Int) := by omega
    clear h1 h2 hk1 hk2
    go_enter Tryd.func5, Tryd.ntmps5
    go_wp2
    go_ret
    exact ⟨rfl, Below.refl _ _⟩
  have g0 : ¬ (2147483647 : Int) < (n1 : Int) := by omega
  by_cases b1 : n2 ≤ 2147483647
  case neg =>
    have g1 : (2147483647 : Int) < (n2 : Int) := by omega
    clear h1 h2 hk1 hk2
    go_enter Tryd.func5, Tryd.ntmps5
    go_wp2
    go_ret
    exact ⟨rfl, Below.refl _ _⟩
  have g1 : ¬ (2147483647 : Int) < (n2 : Int) := by omega
  by_cases b2 : n1 ≤ 30
  case neg =>
    have g2 : (30 : Int) < (n1 : Int) := by omega
    clear h1 h2 hk1 hk2
    go_enter Tryd.func5, Tryd.ntmps5
    go_wp2_with (first | (go_at_call 19; (with_reducible refine (LV.out _).mono ?_); rintro e1 w1 ⟨rfl, hb⟩; have HB := Lib.hid hb; clear hb) | fail)
    go_ret
    exact ⟨rfl, HB.out⟩
  have g2 : ¬ (30 : Int) < (n1 : Int) := by omega
  by_cases b3 : n2 ≤ 30
  case neg =>
    have g3 : (30 : Int) < (n2 : Int) := by omega
    clear h1 h2 hk1 hk2
    go_enter Tryd.func5, Tryd.ntmps5
    go_wp2_with (first | (go_at_call 19; (with_reducible refine (LV.out _).mono ?_); rintro e1 w1 ⟨rfl, hb⟩; have HB := Lib.hid hb; clear hb) | fail)
    go_ret
    exact ⟨rfl, HB.out⟩
  have g3 : ¬ (30 : Int) < (n2 : Int) := by omega
  have H1 := Lib.hid h1
  have H2 := Lib.hid h2
  have HL1 := Lib.hid hl1
  have HL2 := Lib.hid hl2
  have HK1 := Lib.hid hk1
  have HK2 := Lib.hid hk2
  have W1 := Lib.hid (wants_any A1 n1 c1 s1 w h1 hl1 (by omega) hk1)
  have W2 := Lib.hid (fun W (hW : Below w.heap.size w W) => wants_any A2 n2 c2 s2 W (h2.below hW) hl2 (by omega) hk2)
  clear h1 h2 hl1 hl2 hk1 hk2
  go_enter Tryd.func5, Tryd.ntmps5
  go_wp2_with (first
    | (go_at_call_of 20 (Value.slice A1 n1 c1); (with_reducible refine W1.out.mono ?_); clear W1; rintro e1 w1 ⟨⟨v5, xa, rfl, hwa⟩⟩; have HWA := Lib.hid hwa; clear hwa)
    | (go_at_call_of 20 (Value.slice A2 n2 c2); (with_reducible refine (W2.out _ HWA.out.bel).mono ?_); clear W2; rintro e2 w2 ⟨⟨v6, xb, rfl, hwb⟩⟩; have HAB : Hid (AB w w2 v5 v6 (half evN s1 0) (wantsE s2) xa xb) := Lib.hid ⟨HWA.out.later hwb.bel, ⟨own_more hwb.own HWA.out.bel.size, hwb.wr.more HWA.out.bel.size, below_then HWA.out.bel HWA.out.bel.size hwb.bel⟩, fun k hk e => by have := own_base hwb.own k e; have := (HWA.out.own.lt k hk).2; omega⟩; clear HWA hwb)
    | fail)
  obtain ⟨A5, d5, hv5, hd5, _⟩ := own_shape HAB.out.a.own
  obtain ⟨A6, d6, hv6, hd6, _⟩ := own_shape HAB.out.b.own
  rw [half_len, HL1.out] at hv5 hd5
  rw [show (wantsE s2).length = n2 by unfold wantsE; rw [List.length_map]; exact HL2.out] at hv6 hd6
  subst hv5 hv6
  go_loopw [37] (fun si wr => ∃ (j : Nat) (ya : List Value), j ≤ n1 ∧ si = .int .i64 j ∧ Hid (AB w wr (.slice A5 n1 d5) (.slice A6 n2 d6) (half evN s1 j) (wantsE s2) ya xb)) (fun si _ => n1 - (intOf si).toNat)
  case atStart => exact ⟨0, xa, Nat.zero_le _, rfl, HAB.out⟩
  case round =>
    obtain ⟨j, ya, hj, rfl, HS⟩ := hrel
    by_cases hlt : j < n1
    · obtain ⟨s, b, o, hs, rfl, hbl, k0, k1, k2, k3⟩ := step_at H1.out HL1.out HS.out.a.bel hlt
      obtain ⟨e1, e2, e3⟩ := half_at evN s1 j s hs
      obtain ⟨hk1, hk2⟩ := HK1.out s (List.mem_of_getElem? hs)
      have g4 : (j : Int) < (n1 : Int) := by omega
      have hcu : (s.cid : Int) < 256 := by omega
      rw [e1] at HS
      clear hs
      obtain ⟨g5, d5', e5, hd5', hg5, hlt5⟩ := own_form HS.out.a.own (by rw [List.length_append, List.length_cons]; omega)
      injection e5 with e5 e6 e7
      subst e5
      have HQ := Lib.hid (Blk.new wr 49 #[.int .u8 (s.kind : Nat), .int .u8 (s.cid : Nat), .int .i32 s.prio, .bool s.hv])
      have HS1 := Lib.hid (HS.out.later (below_one wr (.cells #[.int .u8 (s.kind : Nat), .int .u8 (s.cid : Nat), .int .i32 s.prio, .bool s.hv] 49)))
      have hev := bits_ev s.cid hk2
      have HI := Lib.hid (fun W => ident_any (evN s.cid) W (by unfold evN; omega))
      have HE2 := Lib.hid e2
      have HE3 := Lib.hid e3
      clear e1 e2 e3 e6 e7
      go_wp2_with (first
        | (go_at_call 21; (with_reducible refine (HI.out _).mono ?_); clear HI; rintro e5 w5 ⟨⟨v5, rfl, ho⟩, hb⟩; obtain ⟨A7, c7, rfl, _, _⟩ := own_shape ho; have HO := Lib.hid (own_more ho HS1.out.a.bel.size); have HS5 := Lib.hid (HS1.out.later hb); obtain ⟨u0, m0, mf, ml⟩ := HS5.out.cell rfl; rw [HE3.out] at m0 mf; clear ho hb)
        | fail)
      have HN := Lib.hid (AB.set HS5.out rfl HO.out)
      go_roundw
      case rel => exact ⟨j + 1, _, by omega, by go_num, by rw [HE2.out]; have h := HN.out; rw [HE3.out] at h; exact h⟩
      case measure => simp [intOf]; omega
    · have g4 : ¬ (j : Int) < (n1 : Int) := by omega
      have HAC : Hid (AB w wr (.slice A6 n2 d6) (.slice A5 n1 d5) (half odN s2 0) (newL evN s1) xb ya) := Lib.hid (by have h := HS.out.swap; rw [half_all evN s1 j (by have := HL1.out; omega)] at h; exact h)
      clear HS HAB
      go_wp2
      go_loopw [54] (fun si wr => ∃ (j : Nat) (yb : List Value), j ≤ n2 ∧ si = .int .i64 j ∧ Hid (AB w wr (.slice A6 n2 d6) (.slice A5 n1 d5) (half odN s2 j) (newL evN s1) yb ya)) (fun si _ => n2 - (intOf si).toNat)
      case atStart => exact ⟨0, xb, Nat.zero_le _, rfl, HAC.out⟩
      case round =>
        obtain ⟨j2, yb, hj2, rfl, HS⟩ := hrel
        by_cases hlt2 : j2 < n2
        · obtain ⟨s, b, o, hs, rfl, hbl, k0, k1, k2, k3⟩ := step_at H2.out HL2.out HS.out.a.bel hlt2
          obtain ⟨e1, e2, e3⟩ := half_at odN s2 j2 s hs
          obtain ⟨hk1, hk2⟩ := HK2.out s (List.mem_of_getElem? hs)
          have g5 : (j2 : Int) < (n2 : Int) := by omega
          have hcu : (s.cid : Int) < 256 := by omega
          rw [e1] at HS
          clear hs HAC
          obtain ⟨gg, dd', e5, hd5', hg5, hlt5⟩ := own_form HS.out.a.own (by rw [List.length_append, List.length_cons]; omega)
          injection e5 with e5 e6 e7
          subst e5
          have HQ := Lib.hid (Blk.new wr 49 #[.int .u8 (s.kind : Nat), .int .u8 (s.cid : Nat), .int .i32 s.prio, .bool s.hv])
          have HS1 := Lib.hid (HS.out.later (below_one wr (.cells #[.int .u8 (s.kind : Nat), .int .u8 (s.cid : Nat), .int .i32 s.prio, .bool s.hv] 49)))
          have hev := bits_od s.cid hk2
          have HI := Lib.hid (fun W => ident_any (odN s.cid) W (by unfold odN; omega))
          have HE2 := Lib.hid e2
          have HE3 := Lib.hid e3
          clear e1 e2 e3 e6 e7
          go_wp2_with (first
            | (go_at_call 21; (with_reducible refine (HI.out _).mono ?_); clear HI; rintro e5 w5 ⟨⟨v5, rfl, ho⟩, hb⟩; obtain ⟨A7, c7, rfl, _, _⟩ := own_shape ho; have HO := Lib.hid (own_more ho HS1.out.a.bel.size); have HS5 := Lib.hid (HS1.out.later hb); obtain ⟨u0, m0, mf, ml⟩ := HS5.out.cell rfl; rw [HE3.out] at m0 mf; clear ho hb)
            | fail)
          have HN := Lib.hid (AB.set HS5.out rfl HO.out)
          go_roundw
          case rel => exact ⟨j2 + 1, _, by omega, by go_num, by rw [HE2.out]; have h := HN.out; rw [HE3.out] at h; exact h⟩
          case measure => simp [intOf]; omega
        · have g5 : ¬ (j2 : Int) < (n2 : Int) := by omega
          have hla : (newL evN s1).length = n1 := by unfold newL; rw [List.length_map]; exact HL1.out
          have hlb : (newL odN s2).length = n2 := by unfold newL; rw [List.length_map]; exact HL2.out
          have hAB : AB w wr (.slice A5 n1 d5) (.slice A6 n2 d6) (newL evN s1) (newL odN s2) ya yb := by have h := HS.out; rw [half_all odN s2 j2 (by have := HL2.out; omega)] at h; exact h.swap
          have hlaw := wanted_law (parted_new s1 s2 (fun s hs => (HK1.out s hs).2) (fun s hs => (HK2.out s hs).2))
          rw [hla, hlb] at hlaw
          obtain ⟨hx1, hy1, hlast, hall⟩ := hlaw
          have hok : ∀ q ∈ newL evN s1 ++ newL odN s2, q.kind ≤ 3 ∧ Castable q.ent.cid := fun q hq => by rcases List.mem_append.1 hq with h | h; exact newL_ok _ _ q h; exact newL_ok _ _ q h
          have hok2 : ∀ q ∈ newL odN s2 ++ newL evN s1, q.kind ≤ 3 ∧ Castable q.ent.cid := fun q hq => by rcases List.mem_append.1 hq with h | h; exact newL_ok _ _ q h; exact newL_ok _ _ q h
          have CX := Lib.hid (fun W (hW : Below wr.heap.size wr W) => cat_any (hAB.later hW) hla hlb (by omega))
          have CY := Lib.hid (fun W (hW : Below wr.heap.size wr W) => cat_any (hAB.later hW).swap hlb hla (by omega))
          have WX := Lib.hid (fun A c W (h : RowF W 4 (n1 + n2) ((newL evN s1 ++ newL odN s2).flatMap wntF) (.slice A (n1 + n2) c)) => wanted_any A (n1 + n2) c _ W h (by rw [List.length_append, hla, hlb]) (by omega) hok)
          have WY := Lib.hid (fun A c W (h : RowF W 4 (n2 + n1) ((newL odN s2 ++ newL evN s1).flatMap wntF) (.slice A (n2 + n1) c)) => wanted_any A (n2 + n1) c _ W h (by rw [List.length_append, hla, hlb]) (by omega) hok2)
          have HBW := Lib.hid hAB.a.bel
          have HSM := Lib.hid (all_small (newL evN s1 ++ newL odN s2))
          rw [List.length_append, hla, hlb] at HSM
          obtain ⟨nn, hnn⟩ : ∃ nn, n1 + n2 = nn := ⟨_, rfl⟩
          rw [hnn] at CX WX hx1 hy1 HSM
          rw [Nat.add_comm n2 n1, hnn] at CY WY
          have HALL := Lib.hid (show ∀ i, i < n1 → ∃ x y, (wantedW (newL evN s1 ++ newL odN s2))[i]? = some x ∧ (wantedW (newL odN s2 ++ newL evN s1))[n2 + i]? = some y ∧ x.ok = y.ok from fun i hi => hall i _ (List.getElem?_eq_getElem (by rw [hla]; exact hi)))
          have HLAST := Lib.hid hlast
          have HX1 := Lib.hid hx1
          have HY1 := Lib.hid hy1
          clear hla hlb hAB hall hlast hx1 hy1 hok hok2 HS HAC
          generalize wantedW (newL evN s1 ++ newL odN s2) = lx at WX HALL HLAST HX1 HSM
          generalize wantedW (newL odN s2 ++ newL evN s1) = ly at WY HALL HLAST HY1
          have HB0 := Lib.hid (Below.refl wr.heap.size wr)
          go_upto_region 17 with (first
            | (go_at_call 23; (with_reducible refine (CX.out _ HB0.out).mono ?_); clear CX; rintro e3 w3 ⟨⟨B3, f3, rfl, hr⟩, hb⟩; have R3 := Lib.hid hr; have HB3 := Lib.hid hb; clear hr hb HB0)
            | (go_at_call 23; (with_reducible refine (CY.out _ HB4.out).mono ?_); clear CY; rintro e5 w5 ⟨⟨B5, f5, rfl, hr⟩, hb⟩; have R5 := Lib.hid hr; have OX5 := Lib.hid (own_below OX.out hb); have TX5 := Lib.hid (TX.out.turn (Turn.of_below hb fun _ => False) (fun _ hk => hk.elim) (fun _ hk => hk.elim)); have HB5 := Lib.hid (below_then HB4.out HB4.out.size hb); clear hr hb HB4 OX TX)
            | (go_at_call 22; (with_reducible refine (WX.out _ _ _ R3.out).mono ?_); clear WX R3; rintro e4 w4 ⟨⟨vx, xsx, rfl, ho, ht⟩, hb⟩; have OX := Lib.hid ho; have TX := Lib.hid ht; rw [HX1.out] at ho; obtain ⟨AX, cX, rfl, _, _⟩ := own_shape ho; have HB4 := Lib.hid (below_then HB3.out HB3.out.size hb); clear ho ht hb HB3)
            | (go_at_call 22; (with_reducible refine (WY.out _ _ _ R5.out).mono ?_); clear WY R5; rintro e6 w6 ⟨⟨vy, xsy, rfl, ho, ht⟩, hb⟩; have OY := Lib.hid ho; have TY := Lib.hid ht; have OX6 := Lib.hid (own_below OX5.out hb); have TX6 := Lib.hid (TX5.out.turn (Turn.of_below hb fun _ => False) (fun _ hk => hk.elim) (fun _ hk => hk.elim)); rw [HY1.out] at ho; obtain ⟨AY, cY, rfl, _, _⟩ := own_shape ho; have HB6 := Lib.hid (below_then HB5.out HB5.out.size hb); clear ho ht hb HB5 OX5 TX5)
            | fail)
          have hw1 : IntKind.i64.wrap ((n1 : Int) + (n2 : Int)) = (nn : Int) := by rw [show (n1 : Int) + (n2 : Int) = (nn : Int) by omega]; exact IntWalk.i64_in _ ⟨by omega, by omega⟩
          go_upto_region 19 with fail
          have HDR : Hid (Below w6.heap.size w6 w6.drew) := Lib.hid (below_drewN (Below.refl _ _) 1)
          by_cases h0 : nn = 0
          · have g6 : decide ((0 : Int) < (nn : Int)) = false := decide_eq_false (by omega)
            have g6n : decide (0 < nn) = false := decide_eq_false (by omega)
            have H0 := Lib.hid h0
            clear h0
            go_quiet (fail)
            go_wp2
            go_loopw [134] (fun si wz => ∃ (j3 : Nat), j3 ≤ n1 ∧ si = .int .i64 j3 ∧ Hid (Below w6.heap.size w6 wz)) (fun si _ => n1 - (intOf si).toNat)
            case atStart => exact ⟨0, Nat.zero_le _, rfl, below_drewN (Below.refl _ _) _⟩
            case round =>
              obtain ⟨j3, hj3, rfl, HW3⟩ := hrel
              by_cases hlt3 : j3 < n1
              · have := H0.out; omega
              · have f1 : ¬ (j3 : Int) < (n1 : Int) := by omega
                go_wp2_with (first | (go_at_call 19; (with_reducible refine (LV.out _).mono ?_); rintro e8 w8 ⟨rfl, hb⟩; have HB8 := Lib.hid hb; clear hb) | fail)
                go_ret
                exact ⟨rfl, below_then (below_then (below_then HBW.out HBW.out.size HB6.out) (below_then HBW.out HBW.out.size HB6.out).size HW3.out) (below_then (below_then HBW.out HBW.out.size HB6.out) (below_then HBW.out HBW.out.size HB6.out).size HW3.out).size HB8.out⟩
          · obtain ⟨m, hm⟩ : ∃ m, nn = m + 1 := ⟨nn - 1, by omega⟩
            obtain ⟨tx, htx⟩ : ∃ t, lx[m]? = some t := ⟨_, List.getElem?_eq_getElem (by have := HX1.out; omega)⟩
            obtain ⟨ty, hty, hlen, hallx⟩ := HLAST.out tx (by rw [List.getLast?_eq_getElem?, HX1.out, show nn - 1 = m by omega]; exact htx)
            rw [List.getLast?_eq_getElem?, HY1.out, show nn - 1 = m by omega] at hty
            have hsm := HSM.out m tx htx
            obtain ⟨gx, dx, P1, p1, P2, p2, esx, ex, _, ⟨_, _, _, _, k4, k5⟩, _, ox, rx⟩ := told_at OX6.out TX6.out (Below.refl _ _) htx
            obtain ⟨gy, dy, Q1, q1, Q2, q2, esy, ey, _, ⟨_, _, _, _, m4, m5⟩, _, oy, ry⟩ := told_at OY.out TY.out (Below.refl _ _) hty
            rw [← hallx] at m5 oy ry
            rw [← hlen] at m4
            injection ex with ex ex2 ex3
            injection ey with ey ey2 ey3
            subst ex ey
            have HEQ := Lib.hid (fun W (hW : Below w6.heap.size w6 W) => equalEntries_any tx.all P2 Q2 p2 q2 tx.all.length W ((RowF.of_own ox rx.frow).below hW) ((RowF.of_own oy ry.frow).below hW) rfl (by omega))
            generalize tx.all.length = ka at k5 m5 HEQ
            generalize tx.len = kl at k4 m4
            have KK : Hid (w6.cell? ⟨gx, m * 6 + 4, none⟩ = some (.int .i64 (kl : Nat)) ∧ w6.cell? ⟨gx, m * 6 + 5, none⟩ = some (.slice P2 ka p2) ∧ w6.cell? ⟨gy, m * 6 + 4, none⟩ = some (.int .i64 (kl : Nat)) ∧ w6.cell? ⟨gy, m * 6 + 5, none⟩ = some (.slice Q2 ka q2)) := Lib.hid ⟨k4, k5, m4, m5⟩
            have g6 : (0 : Int) < (nn : Int) := by omega
            have g6n : 0 < nn := by omega
            have g7 : IntKind.i64.wrap ((nn : Int) - 1) = (m : Int) := by rw [show (nn : Int) - 1 = (m : Int) by omega]; exact IntWalk.i64_in _ ⟨by omega, by omega⟩
            have g8 : (0 : Int) ≤ (m : Int) := by omega
            have g9 : (m : Int) < (nn : Int) := by omega
            have HM := Lib.hid hm
            clear hm h0 k4 k5 m4 m5 hlen hallx hty htx ox oy rx ry ex2 ex3 ey2 ey3 hsm
            go_region_held3 (fun w' => w'.cell? ⟨gx, m * 6 + 4, none⟩ = some (.int .i64 (kl : Nat)) ∧ w'.cell? ⟨gx, m * 6 + 5, none⟩ = some (.slice P2 ka p2) ∧ w'.cell? ⟨gy, m * 6 + 4, none⟩ = some (.int .i64 (kl : Nat)) ∧ w'.cell? ⟨gy, m * 6 + 5, none⟩ = some (.slice Q2 ka q2)) (first | exact KK.out | exact KK9.out) (first
              | (go_at_call 24; (with_reducible refine (HEQ.out _ HDR.out).mono ?_); rintro e9 w9 ⟨rfl, hb⟩; have hb := undrew hb; have KK9 : Hid (w9.cell? ⟨gx, m * 6 + 4, none⟩ = some (.int .i64 (kl : Nat)) ∧ w9.cell? ⟨gx, m * 6 + 5, none⟩ = some (.slice P2 ka p2) ∧ w9.cell? ⟨gy, m * 6 + 4, none⟩ = some (.int .i64 (kl : Nat)) ∧ w9.cell? ⟨gy, m * 6 + 5, none⟩ = some (.slice Q2 ka q2)) := Lib.hid (by obtain ⟨h0, h1, h2, h3⟩ := KK.out; exact ⟨keep_cell hb h0, keep_cell hb h1, keep_cell hb h2, keep_cell hb h3⟩); have HB9 := Lib.hid hb; clear hb)
              | fail)
            go_wp2
            go_loopw [134] (fun si wz => ∃ (j3 : Nat), j3 ≤ n1 ∧ si = .int .i64 j3 ∧ Hid (Below w6.heap.size w6 wz)) (fun si _ => n1 - (intOf si).toNat)
            case atStart => exact ⟨0, Nat.zero_le _, rfl, HB9.out⟩
            case round =>
              obtain ⟨j3, hj3, rfl, HW3⟩ := hrel
              by_cases hlt3 : j3 < n1
              · obtain ⟨tx3, ty3, hx3, hy3, hok3⟩ := HALL.out j3 hlt3
                obtain ⟨q, hq⟩ : ∃ q, n2 + j3 = q := ⟨_, rfl⟩
                rw [hq] at hy3
                obtain ⟨gx3, dx3, _, _, _, _, _, ex3, _, ⟨k0, _, _, _, _, _⟩, _, _, _⟩ := told_at OX6.out TX6.out HW3.out hx3
                obtain ⟨gy3, dy3, _, _, _, _, _, ey3, _, ⟨m0, _, _, _, _, _⟩, _, _, _⟩ := told_at OY.out TY.out HW3.out hy3
                rw [← hok3] at m0
                injection ex3 with ex3 e32 e33
                injection ey3 with ey3 e34 e35
                clear e32 e33 e34 e35
                first | subst ex3 | (injection ex3 with ex3; injection ex3 with ex3; subst ex3)
                first | subst ey3 | (injection ey3 with ey3; injection ey3 with ey3; subst ey3)
                generalize tx3.ok = bk at k0 m0
                have KK3 := Lib.hid (And.intro k0 m0)
                have f1 : (j3 : Int) < (n1 : Int) := by omega
                have f2 : (j3 : Int) < (nn : Int) := by omega
                have f3 : (q : Int) < (nn : Int) := by omega
                have f4 : IntKind.i64.wrap ((n2 : Int) + (j3 : Int)) = (q : Int) := by rw [show (n2 : Int) + (j3 : Int) = (q : Int) by omega]; exact IntWalk.i64_in _ ⟨by omega, by omega⟩
                have f5 : (0 : Int) ≤ (j3 : Int) := by omega
                have f6 : (0 : Int) ≤ (q : Int) := by omega
                clear k0 m0 hok3 hx3 hy3 hq hnn
                go_upto_region 24 with fail
                go_region_held3 (fun w' => w'.cell? ⟨gx, j3 * 6, none⟩ = some (.bool bk) ∧ w'.cell? ⟨gy, q * 6, none⟩ = some (.bool bk)) (exact KK3.out) (fail)
                all_goals (go_wp2; go_roundw)
                case rel => exact ⟨j3 + 1, by omega, by go_num, below_drewN HW3.out 1⟩
                case measure => simp [intOf]; omega
              · have f1 : ¬ (j3 : Int) < (n1 : Int) := by omega
                go_wp2_with (first | (go_at_call 19; (with_reducible refine (LV.out _).mono ?_); rintro e8 w8 ⟨rfl, hb⟩; have HB8 := Lib.hid hb; clear hb) | fail)
                go_ret
                exact ⟨rfl, below_then (below_then (below_then HBW.out HBW.out.size HB6.out) (below_then HBW.out HBW.out.size HB6.out).size HW3.out) (below_then (below_then HBW.out HBW.out.size HB6.out) (below_then HBW.out HBW.out.size HB6.out).size HW3.out).size HB8.out⟩
end Go.Proofs.YtijbdinemjiepaaDoor
