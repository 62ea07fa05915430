/- Marshal of a message, and impl.MsgBytes. -/
import Derived.OwnWalk
import Derived.Test.YtocdbecakefnnaaDoorMgH
namespace Go.Proofs.YtocdbecakefnnaaDoor
open Go.RowKit

/-- The bytes come back in a block of their own. -/
structure Wrote (w : World) (bs : List UInt8) (v : Value) (w' : World) : Prop where
  ex : ∃ g c, v = .slice (some ⟨g, 0, none⟩) bs.length c ∧ bs.length ≤ c ∧ c ≤ 9223372036854775807 ∧ w.heap.size ≤ g ∧ Reads w' w'.heap.size 1 (some ⟨g, 0, none⟩) bs.length (u8s bs)
  below : Below w.heap.size w w'
/-- Bytes and no error come back. -/
structure Marshalled (w : World) (bs : List UInt8) (r : Ending) (w' : World) : Prop where
  ex : ∃ v, r = .returned (.tuple #[v, .nilIface]) ∧ Wrote w bs v w'
theorem put_all (n : Nat) (b : List UInt8) (h : b.length = n) (L : List UInt8) (hl : L.length = n) : put L 0 b = b := by
  unfold put
  rw [List.take_zero, List.nil_append, Nat.zero_add, List.drop_of_length_le (by omega), List.append_nil]
theorem wrote_put {w wx : World} {g n c : Nat} {w0 : Nat} {L S : List UInt8} (h : PutSt w g n L S 0 wx) (hl : L.length = n) (hc : n ≤ c) (hc2 : c ≤ 9223372036854775807) (hg : w0 ≤ g) (w1 : World) (hw : w1.heap.size = w0) (hb : Below w0 w1 wx) (hS : S.length = n) : Wrote w1 S (.slice (some ⟨g, 0, none⟩) n c) wx := by
  have hblk := h.blk
  rw [put_all n S hS L hl] at hblk
  subst hw
  refine ⟨⟨g, c, by rw [hS], by omega, hc2, hg, ?_⟩, hb⟩
  have hr := hblk.reads 0 n (by simp [u8s_length]; omega)
  rw [hS]
  have e : ((u8s S).toArray.toList.drop 0).take n = u8s S := by
    show (u8s S).take n = u8s S
    exact List.take_of_length_le (by rw [u8s_length]; omega)
  rw [e] at hr
  exact hr
theorem made_u8s (N : Nat) : madeCells #[.int .u8 0] N = (u8s (List.replicate N 0)).toArray := by
  apply Array.ext'
  rw [madeCells_one]
  simp [u8s]
theorem msgB_le {m : Msg} (h : MsgFit m) : (msgB m).length ≤ 700000 := by
  have h1 := wantB_le h
  have h2 := blocksB_le h.blocks
  have h3 := payloadB_le h.payload
  have h4 := presB_le h.pres
  have h5 := numB_le 40 m.pending
  have h6 := uv_le (wantB m).length (by omega)
  have n2 := h.n2
  have n3 := h.n3
  have n4 := h.n4
  rw [msgB_len]
  omega
set_option maxRecDepth 100000 in
theorem msgMarshal_any (m : Msg) (b o B : Nat) (w : World) (h : MsgAt w B b o m) (hf : MsgFit m) (hp : MsgPos m) (hB : B ≤ w.heap.size) :
    Calls Tryd.prog 21 #[.pointer (some ⟨b, o, none⟩)] w (Marshalled w (msgB m)) := by
  have hle := msgB_le hf
  obtain ⟨N, hN⟩ : ∃ N, (msgB m).length = N := ⟨_, rfl⟩
  have hsz := msgSize_any m b o B w h hB hf
  rw [hN] at hsz hle
  have hmk := run_make_one (P := Tryd.prog) 32 5 (.int .u8 0) 1 Tryd.underlying32 infoU8w rfl N (by omega) (by omega)
  rw [made_u8s] at hmk
  have hput : ∀ w1, Below w.heap.size w w1 → Calls Tryd.prog 43 #[.pointer (some ⟨b, o, none⟩), .slice (some ⟨w1.heap.size, 0, none⟩) N N] (w1.alloc (.cells (u8s (List.replicate N 0)).toArray 5)) (PutAll (w1.alloc (.cells (u8s (List.replicate N 0)).toArray 5)) w1.heap.size N (List.replicate N 0) (msgB m)) := fun w1 hb =>
    msgPut_any m b o B w1.heap.size N N (List.replicate N 0) _ (h.below ((below_then hb hb.size (below_one w1 _)).mono hB)) hf hp (Nat.le_trans hB hb.size) (Blk.new _ _ _) (by simp) (by omega) (Nat.le_refl _) (by omega)
  have HSZ := Lib.hid hsz
  have HPUT := Lib.hid hput
  have HN := Lib.hid hN
  clear hsz hput hN
  go_enter Tryd.func21, Tryd.ntmps21
  go_wp2_with (first | (go_at_call 22; refine HSZ.out.mono ?_; rintro e w1 ⟨rfl, hb⟩; have HB1 := Lib.hid hb; clear hb) | (go_at_call 43; refine (HPUT.out w1 HB1.out).mono ?_; rintro e w2 ⟨rfl, hst⟩; rw [HN.out, Nat.sub_self] at hst; have HST := Lib.hid hst; clear hst; rw [HN.out]) | fail)
  go_ret2
  exact ⟨⟨_, rfl, wrote_put HST.out (by simp) (Nat.le_refl _) (by omega) HB1.out.size w rfl ((below_then HB1.out HB1.out.size (below_one _ _)).trans (HST.out.only.mono HB1.out.size)) HN.out⟩⟩
theorem RowO.more {α : Type} {w : World} {B B' size : Nat} {F : α → List FV} {l : List α} {v : Value} (h : RowO w B size F l v) (hB : B ≤ B') : RowO w B' size F l v := by
  obtain ⟨A, c, e, hc, h1⟩ := h
  refine ⟨A, c, e, hc, fun h0 => ?_⟩
  obtain ⟨b, o, ha, hx⟩ := h1 h0
  exact ⟨b, o, ha, fun j x hj => (hx j x hj).more hB⟩
/-- A message by value, laid into a block of its own. -/
theorem msgAt_new {w : World} {m : Msg} {u : Value} (h : PMsgV w m u) : ∃ A1 c1 A2 c2 A3 c3 A4 c4, u = .agg #[.slice A1 m.ents.length c1, .bool m.full, .slice A2 m.blocks.length c2, .slice A3 m.payload.length c3, .slice A4 m.pres.length c4, .int .i32 m.pending] ∧ MsgAt (w.alloc (.cells #[.slice A1 m.ents.length c1, .bool m.full, .slice A2 m.blocks.length c2, .slice A3 m.payload.length c3, .slice A4 m.pres.length c4, .int .i32 m.pending] 61)) (w.heap.size + 1) w.heap.size 0 m := by
  obtain ⟨e, b, p, r, rfl, h1, h2, h3, h4⟩ := h
  obtain ⟨A1, c1, -, rfl, -⟩ := id h1
  obtain ⟨A2, c2, -, rfl, -⟩ := id h2
  obtain ⟨A3, c3, -, rfl, -⟩ := id h3
  obtain ⟨A4, c4, -, rfl, -⟩ := id h4
  have hb := Blk.new w 61 #[.slice A1 m.ents.length c1, .bool m.full, .slice A2 m.blocks.length c2, .slice A3 m.payload.length c3, .slice A4 m.pres.length c4, .int .i32 m.pending]
  have hB : Below w.heap.size w (w.alloc (.cells #[.slice A1 m.ents.length c1, .bool m.full, .slice A2 m.blocks.length c2, .slice A3 m.payload.length c3, .slice A4 m.pres.length c4, .int .i32 m.pending] 61)) := below_one w _
  refine ⟨A1, c1, A2, c2, A3, c3, A4, c4, rfl, ⟨⟨Nat.lt_succ_self _, ⟨_, hb.cell 0, ((RowF.row (F := pentF) (s := 5) (fun _ => rfl) (by decide) h1).below hB).more (Nat.le_succ _)⟩, hb.cell 1⟩, ⟨_, hb.cell 2, ((RowF.row (F := blkF) (s := 1) (fun _ => rfl) (by decide) h2).below hB).more (Nat.le_succ _)⟩, ⟨_, hb.cell 3, ((RowF.row (F := bloF) (s := 2) (fun _ => rfl) (by decide) h3).below hB).more (Nat.le_succ _)⟩, ⟨_, hb.cell 4, ((RowF.row (F := ppreF) (s := 2) (fun _ => rfl) (by decide) h4).below hB).more (Nat.le_succ _)⟩, hb.cell 5⟩⟩
/-- What is asked of a message ahead of its bytes. -/
structure MsgOk (m : Msg) : Prop where
  fit : MsgFit m
  pos : MsgPos m
  ce : ∀ q ∈ m.ents, Castable q.cid
  cr : ∀ q ∈ m.pres, Castable q.cid
theorem wrote_after {w W w' : World} {bs : List UInt8} {v : Value} (h : Wrote W bs v w') (hb : Below w.heap.size w W) : Wrote w bs v w' := by
  obtain ⟨g, c, h1, h2, h3, h4, h5⟩ := h.ex
  exact ⟨⟨g, c, h1, h2, h3, Nat.le_trans hb.size h4, h5⟩, below_then hb hb.size h.below⟩
theorem wrote_past {w W w' : World} {bs : List UInt8} {v : Value} (h : Wrote w bs v W) (hb : Below W.heap.size W w') : Wrote w bs v w' := by
  obtain ⟨g, c, h1, h2, h3, h4, h5⟩ := h.ex
  exact ⟨⟨g, c, h1, h2, h3, h4, (h5.below hb).more hb.size⟩, below_then h.below h.below.size hb⟩
theorem msgV_below {w w' : World} {m : Msg} {v : Value} (h : MsgV w m v) (hb : Below w.heap.size w w') : MsgV w' m v := by
  obtain ⟨e, b, p, r, hv, h1, h2, h3, h4⟩ := h
  exact ⟨e, b, p, r, hv, h1.below hb, h2.below hb, h3.below hb, h4.below hb⟩
set_option maxRecDepth 100000 in
set_option maxHeartbeats 4000000 in
theorem msgBytes_any (m : Msg) (v : Value) (w : World) (hv : MsgV w m v) (hc : MsgOk m) :
    Calls Tryd.prog 9 #[v] w fun e w' => ∃ u, e = .returned (.tuple #[u, .int .i64 ((msgB m).length : Nat), .bool true]) ∧ Wrote w (msgB m) u w' := by
  have HV := Lib.hid hv
  obtain ⟨N, hN⟩ : ∃ N, (msgB m).length = N := ⟨_, rfl⟩
  have HN := Lib.hid hN
  rw [hN]
  have hpb : ∀ W, Below w.heap.size w W → Calls Tryd.prog 20 #[v] W fun e w' => ∃ u, e = .returned (.tuple #[u, .bool true]) ∧ PMsgV w' m u ∧ Below W.heap.size W w' := fun W hb =>
    pbMessage_any m v W (msgV_below hv hb) hc.ce hc.cr (fun q hq => Nat.le_trans (hc.fit.blocks q hq) (by decide)) (fun q hq => ⟨Nat.le_trans (hc.fit.payload q hq).1 (by decide), Nat.le_trans (hc.fit.payload q hq).2 (by decide)⟩) hc.fit.n1 hc.fit.n2 hc.fit.n3 hc.fit.n4
  have HPB := Lib.hid hpb
  have HC := Lib.hid hc
  have hsz : ∀ W b B, MsgAt W B b 0 m → B ≤ W.heap.size → Calls Tryd.prog 22 #[.pointer (some ⟨b, 0, none⟩)] W fun e w' => e = .returned (.int .i64 (N : Nat)) ∧ Below W.heap.size W w' := fun W b B h hB => by
    have := msgSize_any m b 0 B W h hB hc.fit
    rw [hN] at this
    exact this
  have HSZ := Lib.hid hsz
  clear hv hpb hc hN hsz
  obtain ⟨e, b, p, r, rfl, -⟩ := HV.out
  go_enter Tryd.func9, Tryd.ntmps9
  go_wp2_with (first
    | (go_at_call 20; go_must (refine (HPB.out _ (below_one w _)).mono ?_; clear HPB; rintro e1 w1 ⟨u, rfl, hu, hb⟩; obtain ⟨A1, c1, A2, c2, A3, c3, A4, c4, rfl, hat⟩ := msgAt_new hu; have HAT := Lib.hid hat; have HB1 := Lib.hid (below_then (below_one w _) (by simp) hb); clear hu hb hat))
    | (go_at_call 21; go_must (refine (msgMarshal_any m _ 0 (w1.heap.size + 1) _ HAT.out HC.out.fit HC.out.pos (by simp)).mono ?_; rintro e2 w2 ⟨⟨u2, rfl, hw⟩⟩; have HW := Lib.hid hw; have HAT2 := Lib.hid (HAT.out.below (hw.below.mono (by simp))); have hs2 := hw.below.size; clear hw))
    | (go_at_call 22; go_must (refine (HSZ.out _ _ _ HAT2.out (by simpa using hs2)).mono ?_); rintro e3 w3 ⟨rfl, hb⟩; have HB3 := Lib.hid hb; clear hb)
    | fail)
  go_ret3
  exact ⟨_, rfl, wrote_past (wrote_after HW.out (below_then HB1.out HB1.out.size (below_one w1 _))) HB3.out⟩
end Go.Proofs.YtocdbecakefnnaaDoor
