/- The law FnMsgBytes. -/
import Derived.Test.YtocdbecakefnnaaDoorMgN
namespace Go.Proofs.YtocdbecakefnnaaDoor
open Go.RowKit

/-- What a row of parts hands over of each. -/
structure PrtOk (p : Prt) : Prop where
  kind : p.kind < 256
  cid : p.cid < 256
  prio : IntKind.i64.wrap p.prio = p.prio
  type : IntKind.i64.wrap p.type = p.type
/-- A message that is made of parts that fit. -/
structure MadeOk (m : Msg) (k : Nat) : Prop where
  cnt : m.ents.length + m.blocks.length + m.payload.length + m.pres.length = k
  ents : ∀ e ∈ m.ents, (∃ n, e.cid = identB n) ∧ IntKind.i64.wrap e.prio = e.prio ∧ IntKind.i64.wrap e.type = e.type
  pres : ∀ e ∈ m.pres, (∃ n, e.cid = identB n) ∧ IntKind.i64.wrap e.type = e.type
  blocks : ∀ q ∈ m.blocks, q.length ≤ 2000
  payload : ∀ q ∈ m.payload, q.pre.length ≤ 2000 ∧ q.data.length ≤ 2000
theorem madeOk_add {m : Msg} {k : Nat} {p : Prt} (h : MadeOk m k) (hp : PrtOk p) (hb : bigB p = false) : MadeOk (addP m p) (k + 1) := by
  have hpre : p.pre.length ≤ 2000 ∧ p.data.length ≤ 2000 := by
    unfold bigB at hb
    simp at hb
    omega
  have hc := addP_count m p
  rw [h.cnt] at hc
  refine ⟨hc, ?_, ?_, ?_, ?_⟩ <;> (unfold addP; intro q hq; split at hq <;> rename_i h0)
  · simp only [List.mem_append, List.mem_singleton] at hq
    rcases hq with hq | rfl
    · exact h.ents q hq
    · exact ⟨⟨_, rfl⟩, hp.prio, hp.type⟩
  · split at hq
    · exact h.ents q hq
    · split at hq <;> exact h.ents q hq
  · exact h.pres q hq
  · split at hq
    · exact h.pres q hq
    · split at hq
      · exact h.pres q hq
      · simp only [List.mem_append, List.mem_singleton] at hq
        rcases hq with hq | rfl
        · exact h.pres q hq
        · exact ⟨⟨_, rfl⟩, hp.type⟩
  · exact h.blocks q hq
  · split at hq
    · simp only [List.mem_append, List.mem_singleton] at hq
      rcases hq with hq | rfl
      · exact h.blocks q hq
      · exact hpre.2
    · split at hq <;> exact h.blocks q hq
  · exact h.payload q hq
  · split at hq
    · exact h.payload q hq
    · split at hq
      · simp only [List.mem_append, List.mem_singleton] at hq
        rcases hq with hq | rfl
        · exact h.payload q hq
        · exact hpre
      · exact h.payload q hq
theorem madeOk_foldl : ∀ (ps : List Prt) (m : Msg) (k : Nat), MadeOk m k → (∀ p ∈ ps, PrtOk p) → (∀ p ∈ ps, bigB p = false) → MadeOk (ps.foldl addP m) (k + ps.length)
  | [], _, _, h, _, _ => h
  | p :: t, m, k, h, hp, hb => by
    have h1 := madeOk_add h (hp p List.mem_cons_self) (hb p List.mem_cons_self)
    have h2 := madeOk_foldl t _ _ h1 (fun q hq => hp q (List.mem_cons_of_mem _ hq)) (fun q hq => hb q (List.mem_cons_of_mem _ hq))
    rw [List.foldl_cons, List.length_cons, show k + (t.length + 1) = k + 1 + t.length by omega]
    exact h2
theorem pend_foldl : ∀ (ps : List Prt) (m : Msg), (ps.foldl addP m).full = m.full ∧ (ps.foldl addP m).pending = m.pending
  | [], _ => ⟨rfl, rfl⟩
  | p :: t, m => by
    have h1 := addP_full m p
    have h2 := pend_foldl t (addP m p)
    rw [List.foldl_cons]
    exact ⟨h2.1.trans h1.1, h2.2.trans h1.2⟩
theorem made_of {ps : List Prt} (full : Bool) (pend : Int) (hp : ∀ p ∈ ps, PrtOk p) (hf : fitB ps = true) : MadeOk (msgOf ps full pend) ps.length ∧ ps.length ≤ 40 := by
  unfold fitB at hf
  simp only [Bool.and_eq_true, decide_eq_true_eq, Bool.not_eq_true'] at hf
  have h := madeOk_foldl ps ⟨[], full, [], [], [], pend⟩ 0 ⟨rfl, by simp, by simp, by simp, by simp⟩ hp (fun p hq => by
    have := List.any_eq_false.1 hf.2 p hq
    simpa using this)
  rw [Nat.zero_add] at h
  exact ⟨h, hf.1⟩
theorem ok_of {m : Msg} {k : Nat} (h : MadeOk m k) (hk : k ≤ 40) : MsgOk m := by
  have hc := h.cnt
  have hid : ∀ l : List UInt8, (∃ n, l = identB n) → 0 < l.length ∧ l.length ≤ 1000 := fun l ⟨n, e⟩ => by
    have := identB_length n
    rw [e]
    omega
  refine ⟨⟨fun e he => (hid _ (h.ents e he).1).2, fun e he => (hid _ (h.pres e he).1).2, h.blocks, h.payload, by omega, by omega, by omega, by omega⟩, ⟨fun e he => (hid _ (h.ents e he).1).1, fun e he => (hid _ (h.pres e he).1).1⟩, fun q hq => ?_, fun q hq => ?_⟩
  · obtain ⟨n, e⟩ := (h.ents q hq).1
    rw [e]
    exact castable_id n
  · obtain ⟨n, e⟩ := (h.pres q hq).1
    rw [e]
    exact castable_id n
theorem rng_of {m : Msg} {k : Nat} (h : MadeOk m k) (hp : IntKind.i64.wrap m.pending = m.pending) : Rng m := ⟨fun e he => (h.ents e he).2, fun e he => (h.pres e he).2, hp⟩
/-- A call that says yes. -/
structure YesB (w : World) (r : Ending) (w' : World) : Prop where
  ret : r = .returned (.bool true)
  below : Below w.heap.size w w'
def liveM : Msg := ⟨[], false, [[7]], [], [], 1⟩
theorem live_bytes : msgB liveM = [10, 0, 18, 1, 7, 40, 1] := by
  have e0 : uv 0 = [0] := by rw [uv_small (by omega)]; rfl
  have e1 : uv 1 = [1] := by rw [uv_small (by omega)]; rfl
  have e2 : u64z 1 = 1 := by decide
  simp [msgB, liveM, wantB, flagB, pieceB, numB, e0, e1, e2]
theorem live_ok : MadeOk liveM 1 := ⟨rfl, by simp [liveM], by simp [liveM], by simp [liveM], by simp [liveM]⟩
theorem live_val (w : World) : MsgV ((w.alloc (.cells #[.int .u8 7] 5)).alloc (.cells #[.slice (some ⟨w.heap.size, 0, none⟩) 1 1] 32)) liveM (.agg #[.slice none 0 0, .bool false, .slice (some ⟨w.heap.size + 1, 0, none⟩) 1 1, .slice none 0 0, .slice none 0 0, .int .i32 1]) := by
  have hr1 := reads_lit w 5 [.int .u8 7]
  have hr2 := reads_lit2 w (.cells #[.int .u8 7] 5) 32 [.slice (some ⟨w.heap.size, 0, none⟩) 1 1]
  have hz : ∀ (W : World) (s : Nat), RowF W s 0 [] (.slice none 0 0) := fun W s => ⟨none, 0, [], rfl, Nat.le_refl _, ⟨by simp, fun h => absurd h (by omega)⟩, rfl⟩
  refine ⟨_, _, _, _, rfl, hz _ _, ⟨_, _, _, rfl, Nat.le_refl _, hr2.more (by simp), ?_⟩, hz _ _, hz _ _⟩
  refine ⟨_, _, rfl, ⟨_, _, rfl, Nat.le_refl _, ?_, fun _ ad _ h => h⟩, rfl⟩
  have h3 := hr1.below (below_one (w.alloc (.cells #[.int .u8 7] 5)) (.cells #[.slice (some ⟨w.heap.size, 0, none⟩) 1 1] 32) |>.mono (by simp))
  exact h3.more (by simp)
set_option maxRecDepth 100000 in
set_option maxHeartbeats 4000000 in
theorem msgLive_any (w : World) : Calls Tryd.prog 7 #[] w (YesB w) := by
  have HV := Lib.hid (live_val w)
  have HM := Lib.hid (fun v W (h : MsgV W liveM v) => msgBytes_any liveM v W h (ok_of live_ok (by omega)))
  rw [live_bytes] at HM
  have HB0 := Lib.hid (below_alloc (below_one w (.cells #[.int .u8 7] 5)) (.cells #[.slice (some ⟨w.heap.size, 0, none⟩) 1 1] 32))
  go_enter Tryd.func7, Tryd.ntmps7
  go_wp2_with (first
    | (go_at_call 9; go_must (refine (HM.out _ _ HV.out).mono ?_); clear HM; rintro e1 w1 ⟨u, rfl, hw⟩; obtain ⟨g, c, rfl, hc1, hc2, hg, hr⟩ := hw.ex; have HR := Lib.hid hr; have HB1 := Lib.hid (below_then HB0.out HB0.out.size hw.below); clear hw hr)
    | (go_at_call 10; go_must (refine (equal_u8 _ _ _ _ 7 7 w1.heap.size (w1.heap.size + 1) [10, 0, 18, 1, 7, 40, 1] [10, 0, 18, 1, 7, 40, 1] _ (HR.out.alloc (Nat.le_refl _) _) (reads_lit w1 5 (u8s [10, 0, 18, 1, 7, 40, 1]))).mono ?_); rintro e2 w2 ⟨rfl, rfl⟩)
    | fail)
  go_ret
  exact ⟨rfl, below_then HB1.out HB1.out.size (below_one _ _)⟩
set_option maxRecDepth 100000 in
set_option maxHeartbeats 4000000 in
theorem lawBytes_any (A : Option Addr) (n c : Nat) (ps : List Prt) (full : Bool) (pend : Int) (w : World) (h : RowF w 8 n (ps.flatMap partF) (.slice A n c)) (hn : ps.length = n) (hmx : n ≤ 9223372036854775807) (hp : ∀ p ∈ ps, PrtOk p) (hpd : IntKind.i64.wrap pend = pend) :
    Calls Tryd.prog 3 #[.slice A n c, .bool full, .int .i32 pend] w (YesB w) := by
  have F1 := Lib.hid (fits13_any A n c ps w h hn hmx)
  have LV := Lib.hid (fun W => msgLive_any W)
  cases hf : fit13B ps with
  | false =>
    rw [hf] at F1
    clear hf h hn hp hpd
    go_enter Tryd.func3, Tryd.ntmps3
    go_wp2_with (first
      | (go_at_call 5; (with_reducible refine F1.out.mono ?_); clear F1; rintro e1 w1 ⟨rfl, hb⟩; have HB1 := Lib.hid hb; clear hb)
      | fail)
    go_ret
    exact ⟨rfl, HB1.out⟩
  | true =>
    rw [hf] at F1
    have F2 := Lib.hid (fun W (hW : Below w.heap.size w W) => partsFit_any A n c ps W (h.below hW) hn hmx)
    cases hf2 : fitB ps with
    | false =>
      rw [hf2] at F2
      clear hf hf2 h hn hp hpd
      go_enter Tryd.func3, Tryd.ntmps3
      go_wp2_with (first
        | (go_at_call 5; (with_reducible refine F1.out.mono ?_); clear F1; rintro e1 w1 ⟨rfl, hb⟩; have HB1 := Lib.hid hb; clear hb)
        | (go_at_call 6; (with_reducible refine (F2.out _ HB1.out).mono ?_); clear F2; rintro e2 w2 ⟨rfl, hb⟩; have HB2 := Lib.hid (below_then HB1.out HB1.out.size hb); clear hb)
        | (go_at_call 7; (with_reducible refine (LV.out _).mono ?_); rintro e3 w3 ⟨rfl, hb⟩; have HB3 := Lib.hid (below_then HB2.out HB2.out.size hb); clear hb)
        | fail)
      go_ret
      exact ⟨rfl, HB3.out⟩
    | true =>
      rw [hf2] at F2
      obtain ⟨hmo, h40⟩ := made_of full pend hp hf2
      have HMS := Lib.hid (fun W (hW : Below w.heap.size w W) => message_any A n c ps full pend W (h.below hW) hn (by omega) (fun p hq => ⟨(hp p hq).kind, (hp p hq).cid⟩))
      have hok := ok_of hmo h40
      have hrn : Rng (msgOf ps full pend) := rng_of hmo (by rw [show (msgOf ps full pend).pending = pend from (pend_foldl ps _).2]; exact hpd)
      generalize msgOf ps full pend = m at HMS hok hrn
      clear hf hf2 h hn hp hpd hmo
      have hlen := msgB_le hok.fit
      have HM := Lib.hid (fun v W (h : MsgV W m v) => msgBytes_any m v W h hok)
      have HS := Lib.hid (fun v W (h : MsgV W m v) => messageBytes_any m v W h hok.fit hrn)
      obtain ⟨bs, hbs⟩ : ∃ bs, msgB m = bs := ⟨_, rfl⟩
      rw [hbs] at HM HS hlen
      clear hbs hok hrn
      go_enter Tryd.func3, Tryd.ntmps3
      go_wp2_with (first
        | (go_at_call 5; (with_reducible refine F1.out.mono ?_); clear F1; rintro e1 w1 ⟨rfl, hb⟩; have HB1 := Lib.hid hb; clear hb)
        | (go_at_call 6; (with_reducible refine (F2.out _ HB1.out).mono ?_); clear F2; rintro e2 w2 ⟨rfl, hb⟩; have HB2 := Lib.hid (below_then HB1.out HB1.out.size hb); clear hb)
        | (go_at_call 8; (with_reducible refine (HMS.out _ HB2.out).mono ?_); clear HMS; rintro e3 w3 ⟨v, rfl, hv, hb⟩; have HV := Lib.hid hv; obtain ⟨_, _, _, _, rfl, ⟨E1, k1, _, rfl, -, -, -⟩, ⟨E2, k2, _, rfl, -, -, -⟩, ⟨E3, k3, _, rfl, -, -, -⟩, ⟨E4, k4, _, rfl, -, -, -⟩⟩ := hv; have HB3 := Lib.hid (below_then HB2.out HB2.out.size hb); clear hb)
        | (go_at_call 9; (with_reducible refine (HM.out _ _ (HV.out.below (below_one w3 _))).mono ?_); clear HM; rintro e4 w4 ⟨u, rfl, hw⟩; obtain ⟨g, cg, rfl, hc1, hc2, hg, hr⟩ := hw.ex; have HR := Lib.hid hr; have hx := bkeep hw.below (Blk.new w3 30 #[.slice E1 m.ents.length k1, .bool m.full, .slice E2 m.blocks.length k2, .slice E3 m.payload.length k3, .slice E4 m.pres.length k4, .int .i32 m.pending]); have q0 : w4.cell? ⟨w3.heap.size, 0, none⟩ = some (.slice E1 m.ents.length k1) := hx.cell 0; have q1 : w4.cell? ⟨w3.heap.size, 1, none⟩ = some (.bool m.full) := hx.cell 1; have q2 : w4.cell? ⟨w3.heap.size, 2, none⟩ = some (.slice E2 m.blocks.length k2) := hx.cell 2; have q3 : w4.cell? ⟨w3.heap.size, 3, none⟩ = some (.slice E3 m.payload.length k3) := hx.cell 3; have q4 : w4.cell? ⟨w3.heap.size, 4, none⟩ = some (.slice E4 m.pres.length k4) := hx.cell 4; have q5 : w4.cell? ⟨w3.heap.size, 5, none⟩ = some (.int .i32 m.pending) := hx.cell 5; have HB4 := Lib.hid (below_then (below_one w3 _) (by simp) hw.below); clear hw hr hx)
        | (go_at_call 11; (with_reducible refine (HS.out _ _ (HV.out.below HB4.out)).mono ?_); clear HS; rintro e5 w5 ⟨⟨v5, rfl, ho⟩, hb⟩; obtain ⟨A5, c5, rfl, hc5, hr5⟩ := own_shape ho; have HR5 := Lib.hid hr5; have HR4 := Lib.hid (HR.out.below hb); have HB5 := Lib.hid (below_then (below_then HB3.out HB3.out.size HB4.out) (below_then HB3.out HB3.out.size HB4.out).size hb); clear ho hb hr5)
        | (go_at_call 10; go_must (refine (equal_u8 _ _ _ _ _ _ w4.heap.size w5.heap.size bs bs _ HR4.out HR5.out).mono ?_); rw [sameB_self]; rintro e6 w6 ⟨rfl, rfl⟩)
        | (go_at_call 7; (with_reducible refine (LV.out _).mono ?_); rintro e7 w7 ⟨rfl, hb⟩; have HB7 := Lib.hid (below_then HB5.out HB5.out.size hb); clear hb)
        | fail)
      go_ret
      exact ⟨rfl, HB7.out⟩
end Go.Proofs.YtocdbecakefnnaaDoor
