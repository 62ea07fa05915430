/- impl.Wanted. -/
import Derived.Deep.Cut
import Derived.Test.YtijbdinemjiepaaDoorRegL
import Derived.Test.YtijbdinemjiepaaDoorWoU
namespace Go.Proofs.YtijbdinemjiepaaDoor
open Go.RowKit

/-- While names are collected. -/
structure NS (w W : World) (v : Value) (l : List (List UInt8)) : Prop where
  ws : WS W (w.heap.size + 1) w.heap.size 0 (fun _ => none) 0
  own : W.ownsRow (w.heap.size + 2) 9 1 v l.length (strs l)
  bel : Below w.heap.size w W
theorem NS.later {w W W' : World} {v : Value} {l : List (List UInt8)} (h : NS w W v l) (hb : Below W.heap.size W W') : NS w W' v l := ⟨h.ws.below hb, own_below h.own hb, below_then h.bel h.bel.size hb⟩
theorem NS.size {w W : World} {v : Value} {l : List (List UInt8)} (h : NS w W v l) : w.heap.size + 2 ≤ W.heap.size := h.ws.sb.lt
theorem NS.app {w W W' : World} {v v' : Value} {l : List (List UInt8)} {x : List UInt8} (h : NS w W v l) (ho : W'.ownsRow (w.heap.size + 2) 9 1 v' (l.length + 1) (strs l ++ [.string ⟨x.toArray⟩])) (hg : W.grownBy W' v.ownBlock) : NS w W' v' (l ++ [x]) := by
  have hb : ∀ k, v.ownBlock = some k → w.heap.size + 2 ≤ k := fun k hk => own_base h.own k hk
  refine ⟨h.ws.keep (Turn.of_grown hg (fun k hk => hk)) (fun e => by have := hb _ e; omega) (fun e => by have := hb _ e; omega), ?_, h.bel.grown hg h.bel.size (fun k hk => by have := hb k hk; omega)⟩
  rw [strs_snoc, List.length_append]
  exact ho
/-- The list's two blocks. -/
abbrev LB (w : World) : Nat → Prop := SM (w.heap.size + 1) w.heap.size
/-- Between steps. -/
structure W2 (w W : World) (v4 : Value) (l : List (List UInt8)) (v8 : Value) (n : Nat) (s : StW) (xs : List Value) : Prop where
  ws : WS W (w.heap.size + 1) w.heap.size n s.f s.c
  nm : W.ownsRow (w.heap.size + 2) 9 1 v4 l.length (strs l)
  out : W.ownsRow (w.heap.size + 2) 60 6 v8 s.out.length xs
  tr : TR W (w.heap.size + 2) s.out xs
  bel : Below w.heap.size w W
/-- Within a step that began in wr. -/
structure R2 (w wr W : World) (n : Nat) (f : WMap) (c : Nat) : Prop where
  ws : WS W (w.heap.size + 1) w.heap.size n f c
  turn : Turn (LB w) wr W
  lo : w.heap.size + 2 ≤ wr.heap.size
theorem W2.start {w W : World} {v4 v8 : Value} {l : List (List UInt8)} {n : Nat} {s : StW} {xs : List Value} (h : W2 w W v4 l v8 n s xs) : R2 w W W n s.f s.c := ⟨h.ws, Turn.refl _ _, h.ws.sb.lt⟩
section
variable {w wr W W' : World} {n c n' c' : Nat} {f f' : WMap}
theorem R2.later (h : R2 w wr W n f c) (hb : Below W.heap.size W W') : R2 w wr W' n f c := ⟨h.ws.below hb, h.turn.then_below hb, h.lo⟩
theorem R2.drew (h : R2 w wr W n f c) : R2 w wr W.drew n f c := ⟨h.ws.drew, h.turn.trans ⟨rfl, rfl, rfl, Nat.le_refl _, fun _ _ _ => rfl⟩, h.lo⟩
theorem R2.after {v : Value} {r : Ending} (h : R2 w wr W n f c) (ha : After W (w.heap.size + 1) w.heap.size n' f' c' v r W') : R2 w wr W' n' f' c' := ⟨ha.ws, h.turn.trans ha.turn, h.lo⟩
theorem R2.bel (h : R2 w wr W n f c) (hb : Below w.heap.size w wr) : Below w.heap.size w W := hb.trans (h.turn.below (by have := h.lo; omega) (fun i hi => by rcases hi with rfl | rfl <;> omega))
theorem R2.set (h : R2 w wr W n f c) {g i : Nat} (hg : wr.heap.size ≤ g) (u : Value) : R2 w wr (W.setCell ⟨g, i, none⟩ u) n f c := by
  have hlo := h.lo
  have ht : Turn (fun k => k = g) W (W.setCell ⟨g, i, none⟩ u) := Turn.of_grown (only_set W g i u) (fun k hk => by injection hk with hk; exact hk.symm)
  refine ⟨h.ws.keep ht (fun e => by omega) (fun e => by omega), ⟨ht.os.trans h.turn.os, ht.tape.trans h.turn.tape, ht.output.trans h.turn.output, Nat.le_trans h.turn.size ht.size, fun k hk hx => (ht.block k (Nat.lt_of_lt_of_le hk h.turn.size) (fun e => by omega)).trans (h.turn.block k hk hx)⟩, hlo⟩
theorem R2.blk (h : R2 w wr W n f c) {v : Value} {r : Ending} (ha : After W (w.heap.size + 1) w.heap.size n' f' c' v r W') {g : Nat} {T : TypeId} {cs : Array Value} (hb : Blk W g T cs) (hg : wr.heap.size ≤ g) : Blk W' g T cs :=
  ha.turn.blk hb (fun e => by have := h.lo; rcases e with rfl | rfl <;> omega)
/-- What was there ahead of the step. -/
theorem R2.names (h : R2 w wr W n f c) {v4 : Value} {l : List (List UInt8)} (hn : wr.ownsRow (w.heap.size + 2) 9 1 v4 l.length (strs l)) : W.ownsRow (w.heap.size + 2) 9 1 v4 l.length (strs l) :=
  h.turn.own hn (fun g hg e => by have := own_base hn g hg; rcases e with rfl | rfl <;> omega)
end
theorem own_setfar {w : World} {base n size g i : Nat} {e T : TypeId} {v : Value} {xs : List Value} {cs : Array Value} (h : w.ownsRow base e size v n xs) (hb : Blk w g T cs) (hne : e ≠ T) (u : Value) : (w.setCell ⟨g, i, none⟩ u).ownsRow base e size v n xs :=
  h.kept (only_set w g i u) (by
    rcases hd : v.ownBlock with _ | k
    · exact .inl rfl
    · exact .inr fun e2 => own_blk_ne h hb hne (by rw [hd, e2]))
theorem R2.grown {w wr W W' : World} {n c : Nat} {f : WMap} {r : Option Nat} (h : R2 w wr W n f c) (hg : W.grownBy W' r) (hr : ∀ k, r = some k → wr.heap.size ≤ k) : R2 w wr W' n f c := by
  have hlo := h.lo
  have ht : Turn (fun k => r = some k) W W' := Turn.of_grown hg (fun k hk => hk)
  refine ⟨h.ws.keep ht (fun e => by have := hr _ e; omega) (fun e => by have := hr _ e; omega), ⟨ht.os.trans h.turn.os, ht.tape.trans h.turn.tape, ht.output.trans h.turn.output, Nat.le_trans h.turn.size ht.size, fun k hk hx => (ht.block k (Nat.lt_of_lt_of_le hk h.turn.size) (fun e => by have := hr _ e; omega)).trans (h.turn.block k hk hx)⟩, hlo⟩
theorem away_blk {W : World} {g : Nat} {T e : TypeId} {cs : Array Value} (h : Blk W g T cs) (hne : T ≠ e) : Away W (fun k => k = g) e := by
  intro k hk cur hh
  subst hk
  unfold Blk at h
  rw [hh] at h
  injection h with h
  injection h with _ h
  exact hne h.symm
/-- While the entries of the list are told. -/
structure L3 (w wr W : World) (n : Nat) (f : WMap) (c : Nat) (ok : Bool) (en : Enr) (v1 v2 : Value) (l : List Enr) (es : List Value) : Prop where
  r : R2 w wr W n f c
  t : Blk W (wr.heap.size + 1) 60 #[.bool ok, v1, .int .i32 en.prio, .bool en.hv, .int .i64 (c : Nat), v2]
  o1 : W.ownsRow (w.heap.size + 2) 5 1 v1 en.cid.length (u8s en.cid)
  o2 : W.ownsRow wr.heap.size 52 3 v2 l.length es
  er : ER W (w.heap.size + 2) l es
theorem L3.later {w wr W W' : World} {n : Nat} {f : WMap} {c : Nat} {ok : Bool} {en : Enr} {v1 v2 : Value} {l : List Enr} {es : List Value} (h : L3 w wr W n f c ok en v1 v2 l es) (hb : Below W.heap.size W W') : L3 w wr W' n f c ok en v1 v2 l es :=
  ⟨h.r.later hb, bkeep hb h.t, own_below h.o1 hb, own_below h.o2 hb, h.er.turn (Turn.of_below hb fun _ => False) (fun _ hk => hk.elim)⟩
theorem L3.app {w wr W W' : World} {n : Nat} {f : WMap} {c : Nat} {ok : Bool} {en e : Enr} {v1 v2 v3 v6 : Value} {l : List Enr} {es : List Value} (h : L3 w wr W n f c ok en v1 v2 l es) (h6 : W.ownsRow (w.heap.size + 2) 5 1 v6 e.cid.length (u8s e.cid))
    (ho : W'.ownsRow wr.heap.size 52 3 v3 (l.length + 1) (es ++ [v6, .int .i32 e.prio, .bool e.hv])) (hg : W.grownBy W' v2.ownBlock) : L3 w wr (W'.setCell ⟨wr.heap.size + 1, 5, none⟩ v3) n f c ok en v1 v3 (l ++ [e]) (es ++ [v6, .int .i32 e.prio, .bool e.hv]) := by
  have ht : Turn (fun k => v2.ownBlock = some k) W W' := Turn.of_grown hg (fun k hk => hk)
  have hb := h.t.grown hg (fun e => own_blk_ne h.o2 h.t (by decide) e.symm)
  have hs : Turn (fun k => k = wr.heap.size + 1) W' (W'.setCell ⟨wr.heap.size + 1, 5, none⟩ v3) := Turn.of_grown (only_set W' _ 5 v3) (fun k hk => by injection hk with hk; exact hk.symm)
  refine ⟨(h.r.grown hg (fun k hk => own_base h.o2 k hk)).set (Nat.le_succ _) _, hb.set_ 5 _, own_setfar (own_beside h.o1 hg (own_apart h.o2 h.o1 (by decide))) hb (by decide) _, ?_, ?_⟩
  · rw [List.length_append]
    exact own_setfar ho hb (by decide) _
  · have h1 := (ER.snoc h6 h.er).turn ht (away_own h.o2 (by decide))
    exact h1.turn hs (away_blk hb (by decide))
theorem all_snoc (N : List (List UInt8)) (k : Nat) (x : List UInt8) (f : WMap) (h : N[k]? = some x) : allW (N.take (k + 1)) f = allW (N.take k) f ++ (foundW f x).toList := by
  unfold allW
  rw [List.take_add_one, h, List.filterMap_append]
  simp only [Option.toList_some, List.filterMap_cons, List.filterMap_nil]
  cases foundW f x <;> rfl
theorem all_len (N : List (List UInt8)) (k : Nat) (f : WMap) : (allW (N.take k) f).length ≤ N.length := by
  unfold allW
  exact Nat.le_trans (List.length_filterMap_le _ _) (List.length_take_le' k N)
theorem W2.app {w W W' : World} {v4 v8 v3 : Value} {l : List (List UInt8)} {n c : Nat} {f : WMap} {o : List Tld} {t : Tld} {xs ys : List Value} (hw : WS W (w.heap.size + 1) w.heap.size n f c) (hn : W.ownsRow (w.heap.size + 2) 9 1 v4 l.length (strs l)) (ho : W.ownsRow (w.heap.size + 2) 60 6 v8 o.length xs) (ht : TR W (w.heap.size + 2) (o ++ [t]) ys) (hb : Below w.heap.size w W)
    (hown : W'.ownsRow (w.heap.size + 2) 60 6 v3 (o.length + 1) ys) (hg : W.grownBy W' v8.ownBlock) : W2 w W' v4 l v3 n ⟨f, c, o ++ [t]⟩ ys := by
  have hr : ∀ k, v8.ownBlock = some k → w.heap.size + 2 ≤ k := fun k hk => own_base ho k hk
  have htn : Turn (fun k => v8.ownBlock = some k) W W' := Turn.of_grown hg (fun k hk => hk)
  refine ⟨hw.keep htn (fun e => by have := hr _ e; omega) (fun e => by have := hr _ e; omega), own_beside hn hg (own_apart ho hn (by decide)), ?_, ht.turn htn (away_own ho (by decide)) (away_own ho (by decide)), hb.grown hg hb.size (fun k hk => by have := hr k hk; omega)⟩
  rw [List.length_append]
  exact hown
theorem TR.more {W : World} {B B' : Nat} (hB : B' ≤ B) : ∀ {l : List Tld} {zs : List Value}, TR W B l zs → TR W B' l zs
  | [], _, h => h
  | _ :: _, _, ⟨v1, v2, es, ys, e1, h1, h2, h3, h4⟩ => ⟨v1, v2, es, ys, e1, own_more h1 hB, own_more h2 hB, h3.more hB, TR.more hB h4⟩
/-- What steps tell comes back. -/
structure TellsW (w : World) (l : List Tld) (r : Ending) (w' : World) : Prop where
  ex : ∃ v xs, r = .returned v ∧ w'.ownsRow w.heap.size 60 6 v l.length xs ∧ TR w' w.heap.size l xs
  below : Below w.heap.size w w'
theorem infoStr : (Tryd.prog.info? 9).map (fun i => (i.zero, i.size, i.bytes)) = some (some (.string ByteArray.empty), 1, 16) := by kernel_rfl
theorem infoTold : (Tryd.prog.info? 60).map (fun i => (i.zero, i.size, i.bytes)) = some (some (.agg #[.bool false, .slice none 0 0, .int .i32 0, .bool false, .int .i64 0, .slice none 0 0]), 6, 72) := by kernel_rfl
theorem infoEntry : (Tryd.prog.info? 52).map (fun i => (i.zero, i.size, i.bytes)) = some (some (.agg #[.slice none 0 0, .int .i32 0, .bool false]), 3, 32) := by kernel_rfl
theorem addN_in {ns : List (List UInt8)} {q : Wnt} (h : q.ent.cid ∈ ns) : addN ns q = ns := by unfold addN; rw [if_pos h]
theorem addN_new {ns : List (List UInt8)} {q : Wnt} (h : ¬ q.ent.cid ∈ ns) : addN ns q = ns ++ [q.ent.cid] := by unfold addN; rw [if_neg h]
theorem conv_at (w : World) (A : Option Addr) (n c : Nat) (l : List UInt8) (h : Reads w w.heap.size 1 A n (u8s l)) : (convert 30 9 (.slice A n c)).run Tryd.prog w = .ok (.string ⟨l.toArray⟩) w :=
  run_convert_reads w 30 5 Tryd.underlying30 Tryd.underlying5 w.heap.size A n c l h 9 Tryd.underlying9
set_option linter.unusedSimpArgs false in
set_option maxRecDepth 100000 in
set_option maxHeartbeats 16000000 in
theorem wanted_any (A : Option Addr) (n c : Nat) (ws : List Wnt) (w : World) (h : RowF w 4 n (ws.flatMap wntF) (.slice A n c)) (hn : ws.length = n) (hn60 : n ≤ 100) (hk : ∀ q ∈ ws, q.kind ≤ 3 ∧ Castable q.ent.cid) :
    Calls Tryd.prog 22 #[.slice A n c] w (TellsW w (wantedW ws)) := by
  obtain ⟨i1, hi1, ha0, ha1, ha2⟩ := info_parts infoStr
  obtain ⟨i2, hi2, hb0, hb1, hb2⟩ := info_parts infoTold
  obtain ⟨i3, hi3, hz30, hz31, hz32⟩ := info_parts infoEntry
  have HR := Lib.hid h
  have HN := Lib.hid hn
  have HK := Lib.hid hk
  clear h hn hk
  go_enter Tryd.func22, Tryd.ntmps22
  go_wp2_with (first | (go_at_call 43; refine (new_any w).mono ?_; rintro e w1 ⟨rfl, hws, hb⟩; have HNS : Hid (NS w w1 (.slice none 0 0) []) := Lib.hid ⟨hws, World.ownsRow_nil _ _ _ _, hb⟩; clear hws hb) | fail)
  go_loopw [4, 25] (fun s4 si wr => ∃ j : Nat, j ≤ n ∧ si = .int .i64 j ∧ Hid (NS w wr s4 ((ws.take j).foldl addN []))) (fun _ si _ => n - (intOf si).toNat)
  case atStart => exact ⟨0, Nat.zero_le _, rfl, HNS.out⟩
  case round =>
    obtain ⟨j, hj, rfl, HS⟩ := hrel
    have HLE : Hid (((ws.take j).foldl addN []).length ≤ 100) := Lib.hid (by have := names_len (ws.take j) []; rw [List.length_take] at this; simp at this; omega)
    by_cases hlt : j < n
    · obtain ⟨q, b, o, A1, c1, hq, rfl, hbl, k0, k1, k2, k3, hc1, hr1⟩ := want_at HR.out HN.out HS.out.bel hlt
      have hst : (ws.take (j + 1)).foldl addN [] = addN ((ws.take j).foldl addN []) q := by rw [List.take_add_one, hq, List.foldl_append]; rfl
      have HST := Lib.hid hst
      generalize (ws.take j).foldl addN [] = ns at HS HST HLE
      have g1 : (j : Int) < (n : Int) := by omega
      have HS1 := Lib.hid (HS.out.later (below_one wr (.cells #[.int .i64 (q.kind : Nat), .slice A1 q.ent.cid.length c1, .int .i32 q.ent.prio, .bool q.ent.hv] 54)))
      have hcv := conv_at _ A1 _ c1 _ (ron hr1 (below_one wr (.cells #[.int .i64 (q.kind : Nat), .slice A1 q.ent.cid.length c1, .int .i32 q.ent.prio, .bool q.ent.hv] 54)))
      have HI := Lib.hid (isIn_any (w.heap.size + 2) u4 ns q.ent.cid _ HS1.out.own (by have := HLE.out; omega))
      clear hq hst hr1
      by_cases hin : q.ent.cid ∈ ns
      · rw [show decide (q.ent.cid ∈ ns) = true from decide_eq_true hin] at HI
        have HE := Lib.hid (addN_in hin)
        clear hin
        go_wp2_with (first | (go_at_call 44; (with_reducible refine HI.out.mono ?_); clear HI; rintro e2 w2 ⟨rfl, rfl⟩) | fail)
        go_roundw
        case rel => exact ⟨j + 1, by omega, by go_num, by rw [HST.out, HE.out]; exact HS1⟩
        case measure => simp [intOf]; omega
      · rw [show decide (q.ent.cid ∈ ns) = false from decide_eq_false hin] at HI
        have HE := Lib.hid (addN_new hin)
        have b1 : ns.length + 1 ≤ maxLen := by have := HLE.out; unfold maxLen; omega
        have b2 : (ns.length + 1) * 16 ≤ 140737488355328 := by have := HLE.out; omega
        clear hin
        go_wp2_with (first
          | (go_at_call 44; (with_reducible refine HI.out.mono ?_); clear HI; rintro e2 w2 ⟨rfl, rfl⟩)
          | (at_builtin; refine wpList_append_any _ rfl (.tmp 37) (.tmp 39) 103 rfl (w.heap.size + 2) 9 i1 _ 1 16 Tryd.underlying103 hi1 ha0 ha1 ha2 rfl (by decide) u4 ns.length (strs ns) rfl (HS1.out.own.alloc _) _ _ 1 1 [.string ⟨q.ent.cid.toArray⟩] rfl (reads_lit2 wr _ _ [.string ⟨q.ent.cid.toArray⟩]) (by intro u hu; simp at hu; subst hu; rfl) b1 b2 (by have := HS1.out.size; simp at this ⊢; omega) ?_; rintro v3 w3 hown3 hg3 _ _; have HS3 := Lib.hid ((HS1.out.later (below_one _ _)).app hown3 hg3); clear hown3 hg3)
          | fail)
        go_roundw
        case rel => exact ⟨j + 1, by omega, by go_num, by rw [HST.out, HE.out]; exact HS3⟩
        case measure => simp [intOf]; omega
    · have g1 : ¬ (j : Int) < (n : Int) := by omega
      have hall : (ws.take j).foldl addN [] = namesW ws := by rw [List.take_of_length_le (by have := HN.out; omega)]; rfl
      rw [hall] at HS HLE
      clear hall
      have HSO := Lib.hid (sort_any (w.heap.size + 2) u4 (namesW ws) wr HS.out.own (by have := HLE.out; omega))
      have HL2 : Hid ((sortW (namesW ws)).length = (namesW ws).length) := Lib.hid (sort_len _)
      have HRUN : Hid ((ws.foldl (stW (sortW (namesW ws))) ⟨fun _ => none, 0, []⟩).out = wantedW ws) := Lib.hid rfl
      go_wp2_with (first | (go_at_call 45; (with_reducible refine HSO.out.mono ?_); clear HSO; rintro e2 w2 ⟨rfl, hso, hst⟩; have HSO := Lib.hid hso; have HST := Lib.hid hst; clear hso hst) | fail)
-- LOOP 2
      have HW0 : Hid (W2 w w2 u4 (sortW (namesW ws)) (.slice none 0 0) 0 ⟨fun _ => none, 0, []⟩ []) := Lib.hid ⟨HS.out.ws.keep HST.out (fun e => by have := own_base HS.out.own _ e; omega) (fun e => by have := own_base HS.out.own _ e; omega), by rw [HL2.out]; exact HSO.out, World.ownsRow_nil _ _ _ _, rfl, HS.out.bel.trans (HST.out.below HS.out.bel.size (fun i hi => by have := own_base HS.out.own _ hi; omega))⟩
      have HLN : Hid ((sortW (namesW ws)).length ≤ 100) := Lib.hid (by rw [HL2.out]; exact HLE.out)
      clear HSO HST HS HL2 HLE HNS
      generalize hsn : sortW (namesW ws) = nm at HW0 HLN HRUN
      have HSN := Lib.hid hsn
      clear hsn
      obtain ⟨A4, c4, rfl, hc4, _⟩ := own_shape HW0.out.nm
      go_loopw [8, 46] (fun s8 si wr => ∃ (j : Nat) (s : StW) (xs : List Value), j ≤ n ∧ si = .int .i64 j ∧ Hid (s = (ws.take j).foldl (stW nm) ⟨fun _ => none, 0, []⟩) ∧ Hid (W2 w wr (.slice A4 nm.length c4) nm s8 j s xs)) (fun _ si _ => n - (intOf si).toNat)
      case atStart => exact ⟨0, _, _, Nat.zero_le _, rfl, rfl, HW0.out⟩
      case round =>
        obtain ⟨j, s, xs, hj, rfl, HX, HW⟩ := hrel
        clear HW0
        by_cases hlt : j < n
        · obtain ⟨q, b, o, A1, c1, hq, rfl, hbl, k0, k1, k2, k3, hc1, hr1⟩ := want_at HR.out HN.out HW.out.bel hlt
          obtain ⟨kz, hkz⟩ : ∃ kz : Int, kz = ((q.kind : Nat) : Int) := ⟨_, rfl⟩
          rw [← hkz] at k0
          have HKZ := Lib.hid hkz
          clear hkz
          have HST : Hid ((ws.take (j + 1)).foldl (stW nm) ⟨fun _ => none, 0, []⟩ = stW nm s q) := Lib.hid (by rw [List.take_add_one, hq, List.foldl_append, ← HX.out]; rfl)
          obtain ⟨hk3, hcast⟩ := HK.out q (List.mem_of_getElem? hq)
          have HCA := Lib.hid hcast.cast
          have hpos := hcast.pos
          have hlen := hcast.len
          have g1 : (j : Int) < (n : Int) := by omega
          have hb2 := below_alloc (below_one wr (.cells #[.int .i64 kz, .slice A1 q.ent.cid.length c1, .int .i32 q.ent.prio, .bool q.ent.hv] 54)) (.cells #[.bool false, .slice none 0 0, .int .i32 0, .bool false, .int .i64 0, .slice none 0 0] 60)
          have HR2 := Lib.hid (HW.out.start.later hb2)
          have HQ := Lib.hid ((Blk.new wr 54 #[.int .i64 kz, .slice A1 q.ent.cid.length c1, .int .i32 q.ent.prio, .bool q.ent.hv]).alloc (.cells #[.bool false, .slice none 0 0, .int .i32 0, .bool false, .int .i64 0, .slice none 0 0] 60))
          have ht := Blk.new (wr.alloc (.cells #[.int .i64 kz, .slice A1 q.ent.cid.length c1, .int .i32 q.ent.prio, .bool q.ent.hv] 54)) 60 #[.bool false, .slice none 0 0, .int .i32 0, .bool false, .int .i64 0, .slice none 0 0]
          rw [World.size_alloc] at ht
          have HT := Lib.hid ht
          have HCL := Lib.hid (clone_u8 A1 q.ent.cid.length c1 _ (u8s q.ent.cid) _ (ron hr1 hb2) (u8s_one _) (by omega) (Nat.le_refl _))
          clear hq hr1 hb2 ht hcast
          go_upto_if 59 with (first
            | (go_at_call 30; (with_reducible refine HCL.out.mono ?_); clear HCL; rintro e3 w3 ⟨⟨v3, rfl, ho, _⟩, hb⟩; obtain ⟨g3, c3, rfl, hc3, _, _⟩ := own_form ho hpos; have hrd := Reads.of_own ho; have HRD := Lib.hid hrd; have hx1 := Lib.hid (HR2.out.later hb); have hx2 := Lib.hid (bkeep hb HQ.out); have hx3 := Lib.hid (bkeep hb HT.out); clear HR2 HQ HT ho hb hrd; have HR2 := hx1; have HQ := hx2; have HT := hx3; clear hx1 hx2 hx3)
            | (go_at_call 38; (with_reducible refine (HCA.out _ _ _ _ _ HRD.out hc3 (Nat.le_refl _)).mono ?_); rintro e4 w4 ⟨rfl, hb⟩; have hx1 := Lib.hid ((HR2.out.later hb).later (below_one w4 (.cells #[.string ⟨q.ent.cid.toArray⟩] 72))); have hx2 := Lib.hid ((bkeep hb HQ.out).alloc (.cells #[.string ⟨q.ent.cid.toArray⟩] 72)); have hx3 := Lib.hid ((bkeep hb HT.out).alloc (.cells #[.string ⟨q.ent.cid.toArray⟩] 72)); have HC := Lib.hid (Blk.new w4 72 #[.string ⟨q.ent.cid.toArray⟩]); have hsz6 : wr.heap.size + 2 ≤ w4.heap.size := Nat.le_trans (Nat.succ_le_of_lt HT.out.lt) hb.size; clear HR2 HQ HT hb HRD; have HR2 := hx1; have HQ := hx2; have HT := hx3; clear hx1 hx2 hx3)
            | fail)
          go_cut [] from 59 to 103 (fun wx => ∃ v1 : Value, Hid (R2 w wr wx (j + 1) (stepW s.f q) (cntW s.f s.c q)) ∧ Hid (Blk wx (wr.heap.size + 1) 60 #[.bool (okW s.f q), v1, .int .i32 (entW s.f q).prio, .bool (entW s.f q).hv, .int .i64 0, .slice none 0 0]) ∧ Hid (wx.ownsRow (w.heap.size + 2) 5 1 v1 (entW s.f q).cid.length (u8s (entW s.f q).cid)))
          case first =>
            have hlo := HR2.out.lo
            have q0 : (w4.alloc (.cells #[.string ⟨q.ent.cid.toArray⟩] 72)).cell? ⟨wr.heap.size, 0, none⟩ = some (.int .i64 kz) := HQ.out.cell 0
            have hne1 : wr.heap.size ≠ wr.heap.size + 1 := by omega
            have hne2 : w4.heap.size ≠ wr.heap.size + 1 := by omega
            have hk4 : q.kind = 0 ∨ q.kind = 1 ∨ q.kind = 2 ∨ q.kind = 3 := by omega
            rcases hk4 with hq0 | hq0 | hq0 | hq0
            · have HAD : Hid (∀ W, WS W (w.heap.size + 1) w.heap.size j s.f s.c → Calls Tryd.prog 46 #[.pointer (some ⟨w.heap.size + 1, 0, none⟩), .agg #[.string ⟨q.ent.cid.toArray⟩], .int .i32 q.ent.prio, .int .i32 (wty q.ent.hv)] W (After W (w.heap.size + 1) w.heap.size (j + 1) (stepW s.f q) (cntW s.f s.c q) (.bool (okW s.f q)))) := Lib.hid (fun W h => add_any (w.heap.size + 1) w.heap.size j s.c s.f q W h hlen hq0 (by omega))
              have HE : Hid (entW s.f q = noE) := Lib.hid (by unfold entW; rw [if_neg (by omega)])
              obtain rfl : kz = 0 := by rw [HKZ.out, hq0]; rfl
              clear hq0 HKZ
              have hx1 := Lib.hid HR2.out.drew
              have hx2 := Lib.hid HQ.out.drew
              have hx3 := Lib.hid HT.out.drew
              have hx4 := Lib.hid HC.out.drew
              clear HR2 HQ HT HC
              have HR2 := hx1
              have HQ := hx2
              have HT := hx3
              have HC := hx4
              clear hx1 hx2 hx3 hx4
              go_wp2_with fail
              go_region_held3 (fun w' => w'.cell? ⟨w4.heap.size, 0, none⟩ = some (.string ⟨q.ent.cid.toArray⟩) ∧ w'.cell? ⟨wr.heap.size, 2, none⟩ = some (.int .i32 q.ent.prio) ∧ w'.cell? ⟨wr.heap.size, 3, none⟩ = some (.bool q.ent.hv)) (first | exact ⟨HC.out.cell 0, HQ.out.cell 2, HQ.out.cell 3⟩ | exact ⟨(HC.out.far (p := ⟨wr.heap.size + 1, 0, none⟩) hne2 _).cell 0, (HQ.out.far (p := ⟨wr.heap.size + 1, 0, none⟩) hne1 _).cell 2, (HQ.out.far (p := ⟨wr.heap.size + 1, 0, none⟩) hne1 _).cell 3⟩) (first
                | (go_at_call 47; (with_reducible refine (wantType_any _ _).mono ?_); rintro e5 w5 ⟨rfl, rfl⟩)
                | (go_at_call 46; (with_reducible refine (HAD.out _ HR2.out.ws).mono ?_); clear HAD; rintro e6 w6 ha; obtain rfl := ha.ret; have hx1 := Lib.hid (HR2.out.after ha); have hx2 := Lib.hid (HR2.out.blk ha HQ.out (Nat.le_refl _)); have hx3 := Lib.hid (HR2.out.blk ha HT.out (by omega)); have hx4 := Lib.hid (HR2.out.blk ha HC.out (by omega)); clear HR2 HQ HT HC ha; have HR2 := hx1; have HQ := hx2; have HT := hx3; have HC := hx4; clear hx1 hx2 hx3 hx4; have t0 : w6.cell? ⟨wr.heap.size + 1, 0, none⟩ = some (.bool false) := HT.out.cell 0; have tf := HT.out.frozen 0; have tl := HT.out.lt)
                | fail)
              all_goals
                go_wp2
                go_meet
                refine ⟨.slice none 0 0, HR2.out.set (Nat.le_succ _) _, ?_, ?_⟩
                · show Blk _ _ _ _
                  rw [HE.out]
                  exact HT.out.set_ 0 _
                · show World.ownsRow _ _ _ _ _ _ _
                  rw [HE.out]
                  exact World.ownsRow_nil _ _ _ _
            · have HAD : Hid (∀ W, WS W (w.heap.size + 1) w.heap.size j s.f s.c → Calls Tryd.prog 48 #[.pointer (some ⟨w.heap.size + 1, 0, none⟩), .agg #[.string ⟨q.ent.cid.toArray⟩]] W (After W (w.heap.size + 1) w.heap.size (j + 1) (stepW s.f q) (cntW s.f s.c q) (.bool (okW s.f q)))) := Lib.hid (fun W h => remove_any (w.heap.size + 1) w.heap.size j s.c s.f q W h hlen hq0)
              have HE : Hid (entW s.f q = noE) := Lib.hid (by unfold entW; rw [if_neg (by omega)])
              obtain rfl : kz = 1 := by rw [HKZ.out, hq0]; rfl
              clear hq0 HKZ
              have c0 : (w4.alloc (.cells #[.string ⟨q.ent.cid.toArray⟩] 72)).cell? ⟨w4.heap.size, 0, none⟩ = some (.string ⟨q.ent.cid.toArray⟩) := HC.out.cell 0
              go_wp2_with (first
                | (go_at_call 48; (with_reducible refine (HAD.out _ HR2.out.ws).mono ?_); clear HAD; rintro e6 w6 ha; obtain rfl := ha.ret; have hx1 := Lib.hid (HR2.out.after ha); have hx2 := Lib.hid (HR2.out.blk ha HQ.out (Nat.le_refl _)); have hx3 := Lib.hid (HR2.out.blk ha HT.out (by omega)); have hx4 := Lib.hid (HR2.out.blk ha HC.out (by omega)); clear HR2 HQ HT HC ha; have HR2 := hx1; have HQ := hx2; have HT := hx3; have HC := hx4; clear hx1 hx2 hx3 hx4; have t0 : w6.cell? ⟨wr.heap.size + 1, 0, none⟩ = some (.bool false) := HT.out.cell 0; have tf := HT.out.frozen 0; have tl := HT.out.lt)
                | fail)
              go_meet
              refine ⟨.slice none 0 0, HR2.out.set (Nat.le_succ _) _, ?_, ?_⟩
              · show Blk _ _ _ _
                rw [HE.out]
                exact HT.out.set_ 0 _
              · show World.ownsRow _ _ _ _ _ _ _
                rw [HE.out]
                exact World.ownsRow_nil _ _ _ _
            · have HAD : Hid (∀ W, WS W (w.heap.size + 1) w.heap.size j s.f s.c → Calls Tryd.prog 49 #[.pointer (some ⟨w.heap.size + 1, 0, none⟩), .agg #[.string ⟨q.ent.cid.toArray⟩], .int .i32 (wty q.ent.hv)] W (After W (w.heap.size + 1) w.heap.size (j + 1) (stepW s.f q) (cntW s.f s.c q) (.bool (okW s.f q)))) := Lib.hid (fun W h => removeType_any (w.heap.size + 1) w.heap.size j s.c s.f q W h hlen hq0)
              have HE : Hid (entW s.f q = noE) := Lib.hid (by unfold entW; rw [if_neg (by omega)])
              obtain rfl : kz = 2 := by rw [HKZ.out, hq0]; rfl
              clear hq0 HKZ
              have hx1 := Lib.hid HR2.out.drew
              have hx2 := Lib.hid HQ.out.drew
              have hx3 := Lib.hid HT.out.drew
              have hx4 := Lib.hid HC.out.drew
              clear HR2 HQ HT HC
              have HR2 := hx1
              have HQ := hx2
              have HT := hx3
              have HC := hx4
              clear hx1 hx2 hx3 hx4
              go_wp2_with fail
              go_region_held3 (fun w' => w'.cell? ⟨w4.heap.size, 0, none⟩ = some (.string ⟨q.ent.cid.toArray⟩) ∧ w'.cell? ⟨wr.heap.size, 2, none⟩ = some (.int .i32 q.ent.prio) ∧ w'.cell? ⟨wr.heap.size, 3, none⟩ = some (.bool q.ent.hv)) (first | exact ⟨HC.out.cell 0, HQ.out.cell 2, HQ.out.cell 3⟩ | exact ⟨(HC.out.far (p := ⟨wr.heap.size + 1, 0, none⟩) hne2 _).cell 0, (HQ.out.far (p := ⟨wr.heap.size + 1, 0, none⟩) hne1 _).cell 2, (HQ.out.far (p := ⟨wr.heap.size + 1, 0, none⟩) hne1 _).cell 3⟩) (first
                | (go_at_call 47; (with_reducible refine (wantType_any _ _).mono ?_); rintro e5 w5 ⟨rfl, rfl⟩)
                | (go_at_call 49; (with_reducible refine (HAD.out _ HR2.out.ws).mono ?_); clear HAD; rintro e6 w6 ha; obtain rfl := ha.ret; have hx1 := Lib.hid (HR2.out.after ha); have hx2 := Lib.hid (HR2.out.blk ha HQ.out (Nat.le_refl _)); have hx3 := Lib.hid (HR2.out.blk ha HT.out (by omega)); have hx4 := Lib.hid (HR2.out.blk ha HC.out (by omega)); clear HR2 HQ HT HC ha; have HR2 := hx1; have HQ := hx2; have HT := hx3; have HC := hx4; clear hx1 hx2 hx3 hx4; have t0 : w6.cell? ⟨wr.heap.size + 1, 0, none⟩ = some (.bool false) := HT.out.cell 0; have tf := HT.out.frozen 0; have tl := HT.out.lt)
                | fail)
              all_goals
                go_wp2
                go_meet
                refine ⟨.slice none 0 0, HR2.out.set (Nat.le_succ _) _, ?_, ?_⟩
                · show Blk _ _ _ _
                  rw [HE.out]
                  exact HT.out.set_ 0 _
                · show World.ownsRow _ _ _ _ _ _ _
                  rw [HE.out]
                  exact World.ownsRow_nil _ _ _ _
            · have hEo : okW s.f q = (foundW s.f q.ent.cid).isSome := by rw [found_some]; unfold okW; rw [if_neg (by omega), if_neg (by omega), if_neg (by omega)]
              have HE : Hid (stepW s.f q = s.f ∧ cntW s.f s.c q = s.c ∧ okW s.f q = (foundW s.f q.ent.cid).isSome ∧ entW s.f q = (foundW s.f q.ent.cid).getD noE) := Lib.hid ⟨by unfold stepW; rw [if_neg (by omega), if_neg (by omega), if_neg (by omega)], by unfold cntW; rw [if_neg (by omega), if_neg (by omega), if_neg (by omega)], hEo, by unfold entW foundW; rw [if_pos hq0]; cases s.f q.ent.cid <;> rfl⟩
              clear hEo
              obtain rfl : kz = 3 := by rw [HKZ.out, hq0]; rfl
              clear hq0 HKZ
              have c0 : (w4.alloc (.cells #[.string ⟨q.ent.cid.toArray⟩] 72)).cell? ⟨w4.heap.size, 0, none⟩ = some (.string ⟨q.ent.cid.toArray⟩) := HC.out.cell 0
              cases hx : foundW s.f q.ent.cid with
              | none =>
                have HCN := Lib.hid (contains_miss (w.heap.size + 1) w.heap.size j s.c s.f q.ent.cid _ HR2.out.ws hlen hx)
                rw [hx] at HE
                clear hx
                go_wp2_with (first
                  | (go_at_call 50; (with_reducible refine HCN.out.mono ?_); clear HCN; rintro e5 w5 ⟨rfl, hb⟩; have hx1 := Lib.hid ((HR2.out.later hb).later (below_one w5 (.cells #[.string ⟨#[]⟩, .int .i32 0, .int .i32 0] 112))); have hx3 := Lib.hid ((bkeep hb HT.out).alloc (.cells #[.string ⟨#[]⟩, .int .i32 0, .int .i32 0] 112)); clear HR2 HT hb; have HR2 := hx1; have HT := hx3; clear hx1 hx3)
                  | fail)
                go_meet
                refine ⟨.slice none 0 0, ?_, ?_, ?_⟩
                · show R2 _ _ _ _ _ _
                  rw [HE.out.1, HE.out.2.1]
                  exact ⟨HR2.out.ws.mono (Nat.le_succ j), HR2.out.turn, HR2.out.lo⟩
                · show Blk _ _ _ _
                  rw [HE.out.2.2.1, HE.out.2.2.2]
                  exact HT.out
                · show World.ownsRow _ _ _ _ _ _ _
                  rw [HE.out.2.2.2]
                  exact World.ownsRow_nil _ _ _ _
              | some e0 =>
                have HCN := Lib.hid (contains_hit (w.heap.size + 1) w.heap.size j s.c s.f q.ent.cid e0 _ HR2.out.ws hlen hx)
                have hec := (found_eq hx).2
                have HPE := Lib.hid (fun W => plainEntry_any e0 (by rw [hec]; exact hpos) (by rw [hec]; exact hlen) W)
                rw [hx] at HE
                clear hx hec
                go_wp2_with (first
                  | (go_at_call 50; (with_reducible refine HCN.out.mono ?_); clear HCN; rintro e5 w5 ⟨rfl, hb⟩; have hx1 := Lib.hid ((HR2.out.later hb).later (below_one w5 (.cells #[.string ⟨e0.cid.toArray⟩, .int .i32 e0.prio, .int .i32 (wty e0.hv)] 112))); have hx3 := Lib.hid ((bkeep hb HT.out).alloc (.cells #[.string ⟨e0.cid.toArray⟩, .int .i32 e0.prio, .int .i32 (wty e0.hv)] 112)); clear HR2 HT hb; have HR2 := hx1; have HT := hx3; clear hx1 hx3)
                  | (go_at_call 51; (with_reducible refine (HPE.out _).mono ?_); clear HPE; rintro e6 w6 ⟨⟨v6, rfl, ho⟩, hb⟩; obtain ⟨A6, c6, rfl, _, _⟩ := own_shape ho; have HO := Lib.hid (own_more (base' := w.heap.size + 2) ho (Nat.le_trans HR2.out.lo HR2.out.turn.size)); have hx1 := Lib.hid (HR2.out.later hb); have hx3 := Lib.hid (bkeep hb HT.out); clear HR2 HT hb ho; have HR2 := hx1; have HT := hx3; clear hx1 hx3; have t0 : w6.cell? ⟨wr.heap.size + 1, 0, none⟩ = some (.bool false) := HT.out.cell 0; have t1 : w6.cell? ⟨wr.heap.size + 1, 1, none⟩ = some (.slice none 0 0) := HT.out.cell 1; have t2 : w6.cell? ⟨wr.heap.size + 1, 2, none⟩ = some (.int .i32 0) := HT.out.cell 2; have t3 : w6.cell? ⟨wr.heap.size + 1, 3, none⟩ = some (.bool false) := HT.out.cell 3; have tf0 := HT.out.frozen 0; have tf1 := HT.out.frozen 1; have tf2 := HT.out.frozen 2; have tf3 := HT.out.frozen 3; have tl := HT.out.lt)
                  | fail)
                go_meet
                refine ⟨.slice A6 e0.cid.length c6, ?_, ?_, ?_⟩
                rotate_left 1
                · show Blk _ _ _ _
                  rw [HE.out.2.2.1, HE.out.2.2.2]
                  exact (((HT.out.set_ 0 _).set_ 1 _).set_ 2 _).set_ 3 _
                · show World.ownsRow _ _ _ _ _ _ _
                  rw [HE.out.2.2.2]
                  exact own_setfar (own_setfar (own_setfar (own_setfar HO.out HT.out (by decide) _) (HT.out.set_ 0 _) (by decide) _) ((HT.out.set_ 0 _).set_ 1 _) (by decide) _) (((HT.out.set_ 0 _).set_ 1 _).set_ 2 _) (by decide) _
                · show R2 _ _ _ _ _ _
                  rw [HE.out.1, HE.out.2.1]
                  have h4 := (((HR2.out.set (i := 0) (Nat.le_succ _) (.bool true)).set (i := 1) (Nat.le_succ _) (.slice A6 e0.cid.length c6)).set (i := 2) (Nat.le_succ _) (.int .i32 e0.prio)).set (i := 3) (Nat.le_succ _) (.bool e0.hv)
                  exact ⟨h4.ws.mono (Nat.le_succ j), h4.turn, h4.lo⟩
          case rest =>
            obtain ⟨v1, HR3, HT3, HO3⟩ := hcut
            have HTD : Hid (stW nm s q = ⟨stepW s.f q, cntW s.f s.c q, s.out ++ [⟨okW s.f q, entW s.f q, cntW s.f s.c q, allW nm (stepW s.f q)⟩]⟩) := Lib.hid rfl
            generalize stepW s.f q = f2 at HR3 HTD
            generalize cntW s.f s.c q = c2 at HR3 HTD
            generalize okW s.f q = ok at HT3 HTD
            generalize entW s.f q = en at HT3 HO3 HTD
            have HLN2 := Lib.hid (len_any (w.heap.size + 1) w.heap.size (j + 1) c2 f2 wc HR3.out.ws)
            have t4 : wc.cell? ⟨wr.heap.size + 1, 4, none⟩ = some (.int .i64 0) := HT3.out.cell 4
            have tf := HT3.out.frozen 4
            have tl := HT3.out.lt
            have HL30 : Hid (L3 w wr (wc.setCell ⟨wr.heap.size + 1, 4, none⟩ (.int .i64 (c2 : Nat))) (j + 1) f2 c2 ok en v1 (.slice none 0 0) [] []) := Lib.hid ⟨HR3.out.set (Nat.le_succ _) _, HT3.out.set_ 4 _, own_setfar HO3.out HT3.out (by decide) _, World.ownsRow_nil _ _ _ _, rfl⟩
            clear HR2 HQ HT HC HT3 HO3 HCA
            go_wp2_with (first
              | (go_at_call 52; (with_reducible refine HLN2.out.mono ?_); clear HLN2; rintro e5 w5 ⟨rfl, rfl⟩)
              | fail)
            clear t4 tf tl HR3
            obtain ⟨wA, hwA⟩ : ∃ x, x = wr := ⟨wr, rfl⟩
            subst hwA
            go_loopw [109] (fun si wx => ∃ (k : Nat) (v2 : Value) (es : List Value), k ≤ nm.length ∧ si = .int .i64 k ∧ Hid (L3 w wA wx (j + 1) f2 c2 ok en v1 v2 (allW (nm.take k) f2) es)) (fun si _ => nm.length - (intOf si).toNat)
            case atStart => exact ⟨0, _, _, Nat.zero_le _, rfl, HL30.out⟩
            case round =>
              clear HL30
              obtain ⟨k, v2, es, hkn, rfl, HL⟩ := hrel
              by_cases hltk : k < nm.length
              · obtain ⟨x, hx⟩ : ∃ x, nm[k]? = some x := ⟨_, List.getElem?_eq_getElem hltk⟩
                have hall := all_snoc nm k x f2 hx
                have hal := all_len nm k f2
                generalize allW (nm.take k) f2 = al at HL hall hal
                have hnl := HLN.out
                obtain ⟨A2, d2, rfl, _, _⟩ := own_shape HL.out.o2
                have hnm := HL.out.r.names HW.out.nm
                obtain ⟨g4, c5, e4, _, _, _⟩ := own_form hnm (by omega)
                injection e4 with e4 e5 e6
                subst e4
                have hk0 := own_cell hnm rfl k _ (strs_at nm k x hx)
                have hlt4 : g4 < wr.heap.size := World.block_lt_of_cell? _ _ hk0
                obtain ⟨q2, hq2, hqx⟩ : ∃ q2 ∈ ws, q2.ent.cid = x := by
                  have h1 : x ∈ sortW (namesW ws) := by rw [HSN.out]; exact List.mem_of_getElem? hx
                  unfold sortW at h1
                  rcases (mem_names ws [] x).1 (List.mem_mergeSort.1 h1) with h2 | h2
                  · cases h2
                  · exact h2
                have hcx := (HK.out q2 hq2).2
                rw [hqx] at hcx
                have hxl := hcx.len
                obtain ⟨sx, hsx⟩ : ∃ sx : ByteArray, sx = ⟨x.toArray⟩ := ⟨_, rfl⟩
                have hsz : sx.size = x.length := by rw [hsx]; show x.toArray.size = _; simp
                have hsl : sx.data.toList = x := by rw [hsx]
                rw [← hsx] at hk0
                have hcv := Lib.run_convert_string_bytes (P := Tryd.prog) wr 9 30 5 sx Tryd.underlying9 Tryd.underlying30 Tryd.underlying5
                have HCX : Hid (Calls Tryd.prog 38 #[.slice (some ⟨wr.heap.size, 0, none⟩) sx.size (grownCap wr sx.size 0 5)] (Lib.bytesWorld wr 5 sx) fun e w' => e = .returned (.tuple #[.agg #[.string sx], .nilIface]) ∧ Below (Lib.bytesWorld wr 5 sx).heap.size (Lib.bytesWorld wr 5 sx) w') := Lib.hid (by
                  have hrb := reads_bytes wr sx
                  have h := hcx.cast wr.heap.size 0 (grownCap wr sx.size 0 5) (wr.heap.size + 1) (Lib.bytesWorld wr 5 sx) (by rw [hsz, hsl] at hrb; exact hrb) (by rw [← hsz]; exact grownCap_ge _ _ _ _) (by rw [Lib.bytesWorld_size]; exact Nat.le_refl _)
                  rw [← hsx, ← hsz] at h
                  exact h)
                have HL1 := Lib.hid (HL.out.later (below_bytes wr sx))
                have HALL := Lib.hid hall
                have HSX := Lib.hid hsx
                have gk : (k : Int) < (nm.length : Int) := by omega
                cases hf : foundW f2 x with
                | none =>
                  rw [hf] at HALL
                  have HCN : Hid (∀ W, WS W (w.heap.size + 1) w.heap.size (j + 1) f2 c2 → Calls Tryd.prog 50 #[.pointer (some ⟨w.heap.size + 1, 0, none⟩), .agg #[.string sx]] W fun e W' => e = .returned (.tuple #[.agg #[.string ⟨#[]⟩, .int .i32 0, .int .i32 0], .bool false]) ∧ Below W.heap.size W W') := Lib.hid (fun W h => by rw [hsx]; exact contains_miss (w.heap.size + 1) w.heap.size (j + 1) c2 f2 x W h hxl hf)
                  clear hx hall hal hnm e5 e6 hq2 hqx hcx hxl hsx hsz hsl hf
                  go_wp2_with (first
                    | (go_at_call 38; (with_reducible refine HCX.out.mono ?_); clear HCX; rintro e7 w7 ⟨rfl, hb⟩; have HL2 := Lib.hid ((HL1.out.later hb).later (below_one w7 (.cells #[.string sx] 72))); clear HL1 hb)
                    | (go_at_call 50; (with_reducible refine (HCN.out _ HL2.out.r.ws).mono ?_); clear HCN; rintro e8 w8 ⟨rfl, hb⟩; have HL3 := Lib.hid ((HL2.out.later hb).later (below_one w8 (.cells #[.string ⟨#[]⟩, .int .i32 0, .int .i32 0] 112))); clear HL2 hb)
                    | fail)
                  go_roundw
                  case rel => exact ⟨k + 1, _, es, by omega, by go_num, by rw [HALL.out]; show Hid (L3 _ _ _ _ _ _ _ _ _ _ (al ++ []) _); rw [List.append_nil]; exact HL3⟩
                  case measure => simp [intOf]; omega
                | some e0 =>
                  rw [hf] at HALL
                  have hec := (found_eq hf).2
                  have HPE := Lib.hid (fun W => plainEntry_any e0 (by rw [hec]; exact hcx.pos) (by rw [hec]; exact hxl) W)
                  have HCN : Hid (∀ W, WS W (w.heap.size + 1) w.heap.size (j + 1) f2 c2 → Calls Tryd.prog 50 #[.pointer (some ⟨w.heap.size + 1, 0, none⟩), .agg #[.string sx]] W fun e W' => e = .returned (.tuple #[.agg #[.string ⟨e0.cid.toArray⟩, .int .i32 e0.prio, .int .i32 (wty e0.hv)], .bool true]) ∧ Below W.heap.size W W') := Lib.hid (fun W h => by rw [hsx]; exact contains_hit (w.heap.size + 1) w.heap.size (j + 1) c2 f2 x e0 W h hxl hf)
                  have b1 : al.length + 1 ≤ maxLen := by unfold maxLen; omega
                  have b2 : (al.length + 1) * 32 ≤ 140737488355328 := by omega
                  have hlA := HW.out.start.lo
                  clear hx hall hal hnm e5 e6 hq2 hqx hcx hxl hsx hsz hsl hf hec
                  go_wp2_with (first
                    | (go_at_call 38; (with_reducible refine HCX.out.mono ?_); clear HCX; rintro e7 w7 ⟨rfl, hb⟩; have HL2 := Lib.hid ((HL1.out.later hb).later (below_one w7 (.cells #[.string sx] 72))); clear HL1 hb)
                    | (go_at_call 50; (with_reducible refine (HCN.out _ HL2.out.r.ws).mono ?_); clear HCN; rintro e8 w8 ⟨rfl, hb⟩; have HL3 := Lib.hid ((HL2.out.later hb).later (below_one w8 (.cells #[.string ⟨e0.cid.toArray⟩, .int .i32 e0.prio, .int .i32 (wty e0.hv)] 112))); have HBE := Lib.hid (Blk.new w8 112 #[.string ⟨e0.cid.toArray⟩, .int .i32 e0.prio, .int .i32 (wty e0.hv)]); clear HL2 hb)
                    | fail)
                  refine wp_region_L 7 (fun w' => w'.cell? ⟨wA.heap.size + 1, 5, none⟩ = some (.slice A2 al.length d2) ∧ w'.cell? ⟨w8.heap.size, 0, none⟩ = some (.string ⟨e0.cid.toArray⟩) ∧ w'.cell? ⟨w8.heap.size, 1, none⟩ = some (.int .i32 e0.prio) ∧ w'.cell? ⟨w8.heap.size, 2, none⟩ = some (.int .i32 (wty e0.hv))) (by kernel_rfl) ⟨HL3.out.t.cell 5, HBE.out.cell 0, HBE.out.cell 1, HBE.out.cell 2⟩ (fun hHeld => ?_)
                  refine wpAnyL_take (i := 0) (v := ?_) rfl (by kernel_rfl) (by kernel_rfl) (by kernel_rfl) (by kernel_rfl) (fun _ _ _ h => h) (Or.inl ⟨by rfl, ?_⟩) hHeld ?_
                  rotate_left 1
                  · (intro w0 hSw; (try dsimp only at hSw); go_simp; try (with_reducible rfl))
                  simp only [Act.put, List.setIfInBounds_toArray, List.set_cons_zero, List.set_cons_succ]
                  refine wpAnyL_take (i := 1) (v := ?_) rfl (by kernel_rfl) (by kernel_rfl) (by kernel_rfl) (by kernel_rfl) (fun _ _ _ h => h) (Or.inl ⟨by rfl, ?_⟩) hHeld ?_
                  rotate_left 1
                  · (intro w0 hSw; (try dsimp only at hSw); go_simp; try (with_reducible rfl))
                  simp only [Act.put, List.setIfInBounds_toArray, List.set_cons_zero, List.set_cons_succ]
                  refine wpAnyL_take (i := 2) (v := ?_) rfl (by kernel_rfl) (by kernel_rfl) (by kernel_rfl) (by kernel_rfl) (fun _ _ _ h => h) (Or.inl ⟨by rfl, ?_⟩) hHeld ?_
                  rotate_left 1
                  · (intro w0 hSw; (try dsimp only at hSw); go_simp; try (with_reducible rfl))
                  simp only [Act.put, List.setIfInBounds_toArray, List.set_cons_zero, List.set_cons_succ]
                  refine wpAnyL_one (i := 3) (by kernel_rfl) rfl (by rfl) (fun K hK => ?_)
                  go_simp
                  go_at_call 51
                  (with_reducible refine (HPE.out _).mono ?_)
                  rintro e9 w9 ⟨⟨v6, rfl, ho⟩, hb⟩
                  obtain ⟨A6, c6, rfl, _, _⟩ := own_shape ho
                  have hb := undrew hb
                  have hlo3 : w.heap.size + 2 ≤ (w8.alloc (.cells #[.string ⟨e0.cid.toArray⟩, .int .i32 e0.prio, .int .i32 (wty e0.hv)] 112)).heap.size := Nat.le_trans HL3.out.r.lo HL3.out.r.turn.size
                  have HO6 := Lib.hid (own_more (base' := w.heap.size + 2) ho hlo3)
                  have HL4 := Lib.hid (HL3.out.later hb)
                  have HBE4 := Lib.hid (bkeep hb HBE.out)
                  clear ho hb HL3 HBE hHeld
                  refine hK.out _ _ (fun _ => ⟨HL4.out.t.cell 5, HBE4.out.cell 0, HBE4.out.cell 1, HBE4.out.cell 2⟩) (fun hHeld0 => ?_)
                  clear hK K
                  have hHeld := hHeld0 (by decide)
                  clear hHeld0
                  (try simp only [Act.put, List.setIfInBounds_toArray, List.set_cons_zero, List.set_cons_succ])
                  refine wpAnyL_one (i := 4) (by kernel_rfl) rfl (by rfl) (fun K hK => ?_)
                  go_simp
                  refine hK.out _ _ (fun _ => ⟨(HL4.out.t.alloc _).cell 5, (HBE4.out.alloc _).cell 0, (HBE4.out.alloc _).cell 1, (HBE4.out.alloc _).cell 2⟩) (fun hHeld0 => ?_)
                  clear hK K
                  have hHeld := hHeld0 (by decide)
                  clear hHeld0
                  (try simp only [Act.put, List.setIfInBounds_toArray, List.set_cons_zero, List.set_cons_succ])
                  refine wpAnyL_one (i := 5) (by kernel_rfl) rfl (by rfl) (fun K hK => ?_)
                  refine oper_append_row _ (.tmp 129) (.tmp 132) 58 (by rfl) wA.heap.size 52 i3 _ 3 32 Tryd.underlying58 hi3 hz30 hz31 hz32 rfl (by decide) (.slice A2 al.length d2) al.length es (by rfl) (HL4.out.o2.alloc _) _ _ 1 1 [.slice A6 e0.cid.length c6, .int .i32 e0.prio, .bool e0.hv] (by rfl) (lit_new _ _ _ 3 rfl (by omega)) (by intro u hu; simp at hu; rcases hu with rfl | rfl | rfl <;> rfl) b1 b2 (by have := HL4.out.r.turn.size; simp; omega) ?_
                  intro v3 w10 hown3 hg3 hat3
                  have hbl := below_one w9 (.cells #[.slice A6 e0.cid.length c6, .int .i32 e0.prio, .bool e0.hv] 52)
                  have HL5 := Lib.hid ((HL4.out.later hbl).app (own_below HO6.out hbl) hown3 hg3)
                  have ht5 := (HL4.out.later hbl).t.grown hg3 (fun e => own_blk_ne (HL4.out.later hbl).o2 (HL4.out.later hbl).t (by decide) e.symm)
                  have hbe5 := (bkeep hbl HBE4.out).grown hg3 (fun e => own_blk_ne (HL4.out.later hbl).o2 (bkeep hbl HBE4.out) (by decide) e.symm)
                  have z0 : w10.cell? ⟨wA.heap.size + 1, 5, none⟩ = some (.slice A2 al.length d2) := ht5.cell 5
                  have zf : w10.frozen? ⟨wA.heap.size + 1, 5, none⟩ = false := ht5.frozen 5
                  have zl : wA.heap.size + 1 < w10.heap.size := ht5.lt
                  obtain ⟨A8, c8, rfl, -, -⟩ := own_shape hown3
                  have HBE5 := Lib.hid hbe5
                  clear hown3 hg3 hat3 ht5 hbe5 hbl HO6 HL4 HBE4 hHeld
                  refine hK.out _ _ (fun _ => ⟨z0, HBE5.out.cell 0, HBE5.out.cell 1, HBE5.out.cell 2⟩) (fun hHeld0 => ?_)
                  clear hK K
                  have hHeld := hHeld0 (by decide)
                  clear hHeld0
                  (try simp only [Act.put, List.setIfInBounds_toArray, List.set_cons_zero, List.set_cons_succ])
                  refine wpAnyL_take (i := 6) (v := ?_) rfl (by kernel_rfl) (by kernel_rfl) (by kernel_rfl) (by kernel_rfl) (fun _ _ _ h => h) (Or.inl ⟨by rfl, ?_⟩) hHeld ?_
                  rotate_left 1
                  · (intro w0 hSw; (try dsimp only at hSw); go_simp; try (with_reducible rfl))
                  simp only [Act.put, List.setIfInBounds_toArray, List.set_cons_zero, List.set_cons_succ]
                  refine wpAnyL_one (i := 7) (by kernel_rfl) rfl (by rfl) (fun K hK => ?_)
                  go_simp
                  refine hK.out _ _ (fun h => absurd rfl h) (fun _ => ?_)
                  clear hK K
                  refine wpAnyL_done (by kernel_rfl) ?_
                  go_wp2
                  go_roundw
                  case rel => exact ⟨k + 1, _, _, by omega, by go_num, by rw [HALL.out]; exact HL5⟩
                  case measure => simp [intOf]; omega
              · have gk : ¬ (k : Int) < (nm.length : Int) := by omega
                have hfin : allW (nm.take k) f2 = allW nm f2 := by rw [List.take_of_length_le (by omega)]
                rw [hfin] at HL
                clear hfin
                obtain ⟨A2, d2, rfl, _, _⟩ := own_shape HL.out.o2
                obtain ⟨A1', d1', rfl, _, _⟩ := own_shape HL.out.o1
                have hbw := HL.out.r.bel HW.out.bel
                have haw1 : Away wA (LB w) 5 := away_sm HW.out.ws (by decide)
                have haw2 : Away wA (LB w) 52 := away_sm HW.out.ws (by decide)
                have hout := HL.out.r.turn.own_away HW.out.out (away_sm HW.out.ws (by decide))
                have htr := HW.out.tr.turn HL.out.r.turn haw1 haw2
                have hnm := HL.out.r.names HW.out.nm
                have hsl : s.out.length = j := by rw [HX.out, run_len]; simp; have := HN.out; omega
                obtain ⟨A8, d8, rfl, _, _⟩ := own_shape hout
                have HOUT := Lib.hid hout
                have HTR := Lib.hid htr
                have HNM := Lib.hid hnm
                have HBW := Lib.hid hbw
                have HSL := Lib.hid hsl
                have HFIN := Lib.hid (TR.snoc (t := ⟨ok, en, c2, allW nm f2⟩) HL.out.o1 (own_more HL.out.o2 HL.out.r.lo) HL.out.er htr)
                have b1 : s.out.length + 1 ≤ maxLen := by unfold maxLen; omega
                have b2 : (s.out.length + 1) * 72 ≤ 140737488355328 := by omega
                have t0 : wr.cell? ⟨wA.heap.size + 1, 0, none⟩ = some (.bool ok) := HL.out.t.cell 0
                have t1 : wr.cell? ⟨wA.heap.size + 1, 1, none⟩ = some (.slice A1' en.cid.length d1') := HL.out.t.cell 1
                have t2 : wr.cell? ⟨wA.heap.size + 1, 2, none⟩ = some (.int .i32 en.prio) := HL.out.t.cell 2
                have t3 : wr.cell? ⟨wA.heap.size + 1, 3, none⟩ = some (.bool en.hv) := HL.out.t.cell 3
                have t4 : wr.cell? ⟨wA.heap.size + 1, 4, none⟩ = some (.int .i64 (c2 : Nat)) := HL.out.t.cell 4
                have t5 : wr.cell? ⟨wA.heap.size + 1, 5, none⟩ = some (.slice A2 (allW nm f2).length d2) := HL.out.t.cell 5
                have tl := HL.out.t.lt
                clear hout htr hnm hbw hsl
                go_wp2_with (first
                  | (at_builtin; refine wpList_append_any _ rfl (.tmp 136) (.tmp 138) 55 rfl (w.heap.size + 2) 60 i2 _ 6 72 Tryd.underlying55 hi2 hb0 hb1 hb2 rfl (by decide) (.slice A8 s.out.length d8) s.out.length xs rfl (HOUT.out.alloc _) _ _ 1 1 [.bool ok, .slice A1' en.cid.length d1', .int .i32 en.prio, .bool en.hv, .int .i64 (c2 : Nat), .slice A2 (allW nm f2).length d2] rfl (lit_new wr _ _ 6 rfl (by omega)) (by intro u hu; simp at hu; rcases hu with rfl | rfl | rfl | rfl | rfl | rfl <;> rfl) b1 b2 (by have := HL.out.r.lo; have := HL.out.r.turn.size; simp; omega) ?_; rintro v3 w10 hown3 hg3 _ _; have hbl := below_one wr (.cells (List.toArray [.bool ok, .slice A1' en.cid.length d1', .int .i32 en.prio, .bool en.hv, .int .i64 (c2 : Nat), .slice A2 (allW nm f2).length d2]) 60); have HW10 := Lib.hid (W2.app (HL.out.r.ws.below hbl) (own_below HNM.out hbl) (own_below HOUT.out hbl) (HFIN.out.turn (Turn.of_below hbl fun _ => False) (fun _ hk => hk.elim) (fun _ hk => hk.elim)) (below_alloc HBW.out _) hown3 hg3); clear hown3 hg3 hbl)
                  | fail)
                go_roundw
                case rel => exact ⟨j + 1, _, _, by omega, by go_num, by show _ = _; rw [HST.out, HTD.out], HW10.out⟩
                case measure => simp [intOf]; omega
        · have g1 : ¬ (j : Int) < (n : Int) := by omega
          have hfs : s = ws.foldl (stW nm) ⟨fun _ => none, 0, []⟩ := by rw [HX.out, List.take_of_length_le (by have := HN.out; omega)]
          have hso : s.out = wantedW ws := by rw [hfs]; exact HRUN.out
          have hout := HW.out.out
          have htr := HW.out.tr
          rw [hso] at hout htr
          have HOUT := Lib.hid hout
          have HTR := Lib.hid htr
          clear hfs hso hout htr
          go_wp2
          go_ret
          exact ⟨⟨_, xs, rfl, own_more HOUT.out (by omega), TR.more (by omega) HTR.out⟩, HW.out.bel⟩
end Go.Proofs.YtijbdinemjiepaaDoor
