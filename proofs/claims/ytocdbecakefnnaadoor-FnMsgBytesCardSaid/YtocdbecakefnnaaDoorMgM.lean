/- spec.MessageBytes. -/
import Derived.Deep.CutRange
import Derived.Test.YtocdbecakefnnaaDoorMgL
namespace Go.Proofs.YtocdbecakefnnaaDoor
open Go.RowKit

/-- Bytes so far, in a row of the call's own. -/
structure SoFar (w wx : World) (v : Value) (bs : List UInt8) : Prop where
  own : wx.ownsRow w.heap.size 5 1 v bs.length (u8s bs)
  below : Below w.heap.size w wx
theorem SoFar.start (w : World) : SoFar w w (.slice none 0 0) [] := ⟨World.ownsRow_nil _ _ _ _, Below.refl _ _⟩
theorem SoFar.later {wb wx wy : World} {v : Value} {bs : List UInt8} (h : SoFar wb wx v bs) (hb : Below wx.heap.size wx wy) : SoFar wb wy v bs := ⟨own_below h.own hb, below_then h.below h.below.size hb⟩
theorem SoFar.app {wb w2 w3 : World} {v v3 : Value} {bs b : List UInt8} (h : SoFar wb w2 v bs) (ho : w3.ownsRow wb.heap.size 5 1 v3 (bs.length + b.length) (u8s bs ++ u8s b)) (hg : w2.grownBy w3 v.ownBlock) : SoFar wb w3 v3 (bs ++ b) :=
  ⟨by rw [u8s_append, List.length_append]; exact ho, h.below.grown hg h.below.size (own_base h.own)⟩
/-- The same, beside the box of the argument. -/
structure SB (w : World) (cs : Array Value) (W : World) (v : Value) (bs : List UInt8) : Prop where
  so : SoFar w W v bs
  box : Blk W w.heap.size 30 cs
theorem SB.later {w W W' : World} {cs : Array Value} {v : Value} {bs : List UInt8} (h : SB w cs W v bs) (hb : Below W.heap.size W W') : SB w cs W' v bs := ⟨h.so.later hb, bkeep hb h.box⟩
theorem SB.app {w w2 w3 : World} {cs : Array Value} {v v3 : Value} {bs b : List UInt8} (h : SB w cs w2 v bs) (ho : w3.ownsRow w.heap.size 5 1 v3 (bs.length + b.length) (u8s bs ++ u8s b)) (hg : w2.grownBy w3 v.ownBlock) : SB w cs w3 v3 (bs ++ b) :=
  ⟨h.so.app ho hg, h.box.grown hg (fun e => own_blk_ne h.so.own h.box (by decide) e.symm)⟩
theorem SB.fresh {w W w' : World} {cs : Array Value} {v r : Value} {bs b : List UInt8} (h : SB w cs W v bs) (hb : Below W.heap.size W w') (ho : w'.ownsRow W.heap.size 5 1 r b.length (u8s b)) : SB w cs w' r b := ⟨⟨own_more ho h.so.below.size, below_then h.so.below h.so.below.size hb⟩, bkeep hb h.box⟩
theorem flat_tk {α : Type} (f : α → List UInt8) (l : List α) (j : Nat) (q : α) (h : l[j]? = some q) : (l.take j).flatMap f ++ f q = (l.take (j + 1)).flatMap f := by
  obtain ⟨hj, rfl⟩ := List.getElem?_eq_some_iff.1 h
  rw [take_snoc l j hj, List.flatMap_append]
  simp only [List.flatMap_cons, List.flatMap_nil, List.append_nil]
theorem flat_all {α : Type} (f : α → List UInt8) (l : List α) (j : Nat) (h : l.length ≤ j) : (l.take j).flatMap f = l.flatMap f := by rw [List.take_of_length_le h]
theorem flat_le2 {α : Type} (f : α → List UInt8) (N : Nat) (l : List α) (h : ∀ x ∈ l, (f x).length ≤ N) (j : Nat) : ((l.take j).flatMap f).length ≤ l.length * N := by
  have h1 := flat_le f N (l.take j) (fun e he => h e (List.mem_of_mem_take he))
  have h2 : (l.take j).length ≤ l.length := List.length_take_le' j l
  exact Nat.le_trans h1 (Nat.mul_le_mul_right _ h2)
theorem pieceB_ent {q : Ent} (h : q.cid.length ≤ 1000) : (pieceB 10 (entB q)).length ≤ 2000 := Nat.le_trans (piece_le (entB_le h) (by omega)) (by omega)
/-- The numbers are of 32 bits. -/
structure Rng (m : Msg) : Prop where
  ents : ∀ e ∈ m.ents, IntKind.i64.wrap e.prio = e.prio ∧ IntKind.i64.wrap e.type = e.type
  pres : ∀ e ∈ m.pres, IntKind.i64.wrap e.type = e.type
  pend : IntKind.i64.wrap m.pending = m.pending
set_option maxRecDepth 100000 in
set_option maxHeartbeats 8000000 in
theorem messageBytes_any (m : Msg) (v : Value) (w : World) (hv : MsgV w m v) (hf : MsgFit m) (hrng : Rng m) :
    Calls Tryd.prog 11 #[v] w (Fresh w (msgB m)) := by
  obtain ⟨i0, hi, hz0, hz1, hz2⟩ := info_parts infoU8w
  obtain ⟨De0, Db0, Dp0, Dr0, rfl, re, rb, rp, rr⟩ := hv
  obtain ⟨De, de, _, rfl, -, -, -⟩ := id re
  obtain ⟨Db, db, _, rfl, -, -, -⟩ := id rb
  obtain ⟨Dp, dp, _, rfl, -, -, -⟩ := id rp
  obtain ⟨Dr, dr, _, rfl, -, -, -⟩ := id rr
  have Re := Lib.hid re
  have Rb := Lib.hid rb
  have Rp := Lib.hid rp
  have Rr := Lib.hid rr
  have HF := Lib.hid hf
  have HG := Lib.hid hrng
  have n1 := hf.n1
  have n2 := hf.n2
  have n3 := hf.n3
  have n4 := hf.n4
  obtain ⟨cs, hcs⟩ : ∃ cs : Array Value, cs = #[.slice De m.ents.length de, .bool m.full, .slice Db m.blocks.length db, .slice Dp m.payload.length dp, .slice Dr m.pres.length dr, .int .i32 m.pending] := ⟨_, rfl⟩
  have HB0 : Hid (SB w cs (w.alloc (.cells cs 30)) (.slice none 0 0) []) := Lib.hid ⟨⟨World.ownsRow_nil _ _ _ _, below_one w _⟩, Blk.new _ _ _⟩
  subst hcs
  clear re rb rp rr hf hrng
  go_enter Tryd.func11, Tryd.ntmps11
  go_wp2
  go_loopw [3, 17] (fun s3 si wr => ∃ j : Nat, j ≤ m.ents.length ∧ si = .int .i64 j ∧ Hid (SB w #[.slice De m.ents.length de, .bool m.full, .slice Db m.blocks.length db, .slice Dp m.payload.length dp, .slice Dr m.pres.length dr, .int .i32 m.pending] wr s3 ((m.ents.take j).flatMap fun e => pieceB 10 (entB e)))) (fun _ si _ => m.ents.length - (intOf si).toNat)
  case atStart => exact ⟨0, Nat.zero_le _, rfl, HB0.out⟩
  case round =>
    obtain ⟨j, hj, rfl, HS⟩ := hrel
    by_cases hlt : j < m.ents.length
    · obtain ⟨q, hq⟩ : ∃ q, m.ents[j]? = some q := ⟨_, List.getElem?_eq_getElem hlt⟩
      obtain ⟨bp, op, rfl, hbl, hcc⟩ := Re.out.field (F := entF) (s := 5) (fun _ => rfl) (by omega) HS.out.so.below hq rfl
      have g1 : (j : Int) < (m.ents.length : Int) := by omega
      have hsz := HS.out.so.below.size
      have hblr : bp < wr.heap.size := by omega
      obtain ⟨u0, k0, f0⟩ := hcc 0 _ rfl
      obtain ⟨_, k1, rfl, _⟩ := hcc 1 _ rfl
      obtain ⟨_, k2, rfl, _⟩ := hcc 2 _ rfl
      obtain ⟨_, k3, rfl, _⟩ := hcc 3 _ rfl
      obtain ⟨_, k4, rfl, _⟩ := hcc 4 _ rfl
      obtain ⟨A1, c1, rfl, hq1, hr1, _⟩ := f0
      simp only [Nat.add_zero] at k0
      have hqc := HF.out.ents q (List.mem_of_getElem? hq)
      have hqr := HG.out.ents q (List.mem_of_getElem? hq)
      have hl1 := flat_le2 (fun e => pieceB 10 (entB e)) 2000 m.ents (fun e he => pieceB_ent (HF.out.ents e he)) j
      have hl2 := pieceB_ent hqc
      have hstep := flat_tk (fun e => pieceB 10 (entB e)) m.ents j q hq
      generalize ((m.ents.take j).flatMap fun e => pieceB 10 (entB e)) = bs at HS hl1 hstep
      have HSTEP := Lib.hid hstep
      have HE := Lib.hid (fun W (hW : Below w.heap.size w W) => entryBytes_any q A1 c1 W (ron hr1 hW) hq1 (by omega) hqr.1 hqr.2)
      have hbe := entB_le hqc
      have HP : Hid (∀ A c W, Reads W W.heap.size 1 A (entB q).length (u8s (entB q)) → (entB q).length ≤ c → Calls Tryd.prog 23 #[.int .u8 10, .slice A (entB q).length c] W (Fresh W (pieceB 10 (entB q)))) := Lib.hid (fun A c W h1 h2 => piece_any 10 (entB q) A c W h1 h2 (by omega))
      have HS1 := Lib.hid (HS.out.later (below_one wr (.cells #[.slice A1 q.cid.length c1, .int .i32 q.prio, .bool q.cancel, .int .i32 q.type, .bool q.dont] 50)))
      have b1 : bs.length + (pieceB 10 (entB q)).length ≤ maxLen := by unfold maxLen; omega
      have b2 : (bs.length + (pieceB 10 (entB q)).length) * 1 ≤ 140737488355328 := by omega
      have h1 := u8s_one (pieceB 10 (entB q))
      clear hq hcc hr1 hl1 hl2 hstep hbe hqr
      go_wp2_with (first
        | (go_at_call 24; (with_reducible refine (HE.out _ HS1.out.so.below).mono ?_); clear HE; rintro e2 w2 ⟨⟨v2, rfl, ho⟩, hb⟩; obtain ⟨A2, c2, rfl, hc2, hr2⟩ := own_shape ho; have HS2 := Lib.hid (HS1.out.later hb); have HR2 := Lib.hid hr2; clear ho hb hr2)
        | (go_at_call 23; (with_reducible refine (HP.out _ _ _ HR2.out hc2).mono ?_); clear HP; rintro e3 w3 ⟨⟨v3, rfl, ho⟩, hb⟩; obtain ⟨A3, c3, rfl, hc3, hr3⟩ := own_shape ho; have HS3 := Lib.hid (HS2.out.later hb); have HR3 := Lib.hid hr3; clear ho hb hr3)
        | (at_builtin; refine wpList_append_any _ rfl (.tmp 21) (.tmp 24) 32 rfl w.heap.size 5 i0 (.int .u8 0) 1 1 Tryd.underlying32 hi hz0 hz1 hz2 rfl (by decide) _ _ _ rfl HS3.out.so.own w3.heap.size A3 _ c3 _ rfl HR3.out h1 b1 b2 HS3.out.so.below.size ?_; rintro v4 w4 hown4 hg4 _ _; have HS4 := Lib.hid (HS3.out.app hown4 hg4); clear hown4 hg4)
        | fail)
      go_roundw
      case rel => exact ⟨j + 1, by omega, by go_num, by rw [← HSTEP.out]; exact HS4⟩
      case measure => simp [intOf]; omega
    · have g1 : ¬ (j : Int) < (m.ents.length : Int) := by omega
      have hall := flat_all (fun e => pieceB 10 (entB e)) m.ents j (by omega)
      have hl1 := flat_le2 (fun e => pieceB 10 (entB e)) 2000 m.ents (fun e he => pieceB_ent (HF.out.ents e he)) j
      rw [hall] at HS hl1
      have HWE : Hid ((m.ents.flatMap fun e => pieceB 10 (entB e)) ++ flagB 16 m.full = wantB m) := Lib.hid rfl
      have hwl := wantB_le HF.out
      generalize (m.ents.flatMap fun e => pieceB 10 (entB e)) = bs at HS hl1 HWE
      have hfl := flagB_le 16 m.full
      have b1 : bs.length + (flagB 16 m.full).length ≤ maxLen := by unfold maxLen; omega
      have b2 : (bs.length + (flagB 16 m.full).length) * 1 ≤ 140737488355328 := by omega
      have HFL : Hid (∀ W, Below wr.heap.size wr W → Calls Tryd.prog 25 #[.int .u8 16, .bool m.full] W (Fresh W (flagB 16 m.full))) := Lib.hid (fun W _ => flag_any 16 m.full W)
      have HP : Hid (∀ A c W, Reads W W.heap.size 1 A (wantB m).length (u8s (wantB m)) → (wantB m).length ≤ c → Calls Tryd.prog 23 #[.int .u8 10, .slice A (wantB m).length c] W (Fresh W (pieceB 10 (wantB m)))) := Lib.hid (fun A c W h1 h2 => piece_any 10 (wantB m) A c W h1 h2 (by omega))
      have k1 : wr.cell? ⟨w.heap.size, 1, none⟩ = some (.bool m.full) := HS.out.box.cell 1
      clear hall hl1 hwl hfl
      go_wp2_with (first
        | (go_at_call 25; (with_reducible refine (HFL.out _ (Below.refl _ _)).mono ?_); clear HFL; rintro e2 w2 ⟨⟨v2, rfl, ho⟩, hb⟩; obtain ⟨A2, c2, rfl, hc2, hr2⟩ := own_shape ho; have HS2 := Lib.hid (HS.out.later hb); have HR2 := Lib.hid hr2; clear ho hb hr2)
        | (at_builtin; refine wpList_append_any _ rfl (.tmp 27) (.tmp 30) 32 rfl w.heap.size 5 i0 (.int .u8 0) 1 1 Tryd.underlying32 hi hz0 hz1 hz2 rfl (by decide) _ _ _ rfl HS2.out.so.own w2.heap.size A2 _ c2 _ rfl HR2.out (u8s_one _) b1 b2 HS2.out.so.below.size ?_; rintro v4 w4 hown4 hg4 _ _; have hs := HS2.out.app hown4 hg4; rw [HWE.out] at hs; have HS4 := Lib.hid hs; obtain ⟨A4, c4, rfl, hc4, hr4⟩ := own_shape hs.so.own; have HR4 := Lib.hid hr4; clear hown4 hg4 hs hr4)
        | (go_at_call 23; (with_reducible refine (HP.out _ _ _ HR4.out hc4).mono ?_); clear HP; rintro e5 w5 ⟨⟨v5, rfl, ho⟩, hb⟩; have HS5 := Lib.hid (HS4.out.fresh hb ho); have k2 : w5.cell? ⟨w.heap.size, 2, none⟩ = some (.slice Db m.blocks.length db) := HS5.out.box.cell 2; clear ho hb)
        | fail)
      clear HR4 HS2 HS4
      have hwl := wantB_le HF.out
      have hm1 : (pieceB 10 (wantB m)).length ≤ 50000 := Nat.le_trans (piece_le hwl (by omega)) (by omega)
      have HX : Hid (SB w #[.slice De m.ents.length de, .bool m.full, .slice Db m.blocks.length db, .slice Dp m.payload.length dp, .slice Dr m.pres.length dr, .int .i32 m.pending] w5 v5 (pieceB 10 (wantB m) ++ (m.blocks.take 0).flatMap (pieceB 18))) := Lib.hid (by rw [List.take_zero, List.flatMap_nil, List.append_nil]; exact HS5.out)
      go_loopw [6, 36] (fun s6 si wr => ∃ j : Nat, j ≤ m.blocks.length ∧ si = .int .i64 j ∧ Hid (SB w #[.slice De m.ents.length de, .bool m.full, .slice Db m.blocks.length db, .slice Dp m.payload.length dp, .slice Dr m.pres.length dr, .int .i32 m.pending] wr s6 (pieceB 10 (wantB m) ++ (m.blocks.take j).flatMap (pieceB 18)))) (fun _ si _ => m.blocks.length - (intOf si).toNat)
      case atStart => exact ⟨0, Nat.zero_le _, rfl, HX.out⟩
      case round =>
        obtain ⟨j, hj, rfl, HS⟩ := hrel
        clear HX
        by_cases hlt : j < m.blocks.length
        · obtain ⟨q, hq⟩ : ∃ q, m.blocks[j]? = some q := ⟨_, List.getElem?_eq_getElem hlt⟩
          obtain ⟨bp, op, rfl, hbl, hcc⟩ := Rb.out.field (F := blkF) (s := 1) (fun _ => rfl) (by omega) HS.out.so.below hq rfl
          have g1 : (j : Int) < (m.blocks.length : Int) := by omega
          have hsz := HS.out.so.below.size
          have hblr : bp < wr.heap.size := by omega
          obtain ⟨u0, k0, f0⟩ := hcc 0 _ rfl
          obtain ⟨A1, c1, rfl, hq1, hr1, _⟩ := f0
          simp only [Nat.add_zero, Nat.mul_one] at k0
          have hl1 := flat_le2 (pieceB 18) 5000 m.blocks (fun e he => Nat.le_trans (piece_le (HF.out.blocks e he) (by omega)) (by omega)) j
          have hl2 : ((pieceB 18) q).length ≤ 5000 := (fun e he => Nat.le_trans (piece_le (HF.out.blocks e he) (by omega)) (by omega)) q (List.mem_of_getElem? hq)
          have hstep : (pieceB 10 (wantB m) ++ (m.blocks.take j).flatMap (pieceB 18)) ++ (pieceB 18) q = pieceB 10 (wantB m) ++ (m.blocks.take (j + 1)).flatMap (pieceB 18) := by rw [List.append_assoc, flat_tk (pieceB 18) m.blocks j q hq]
          have hl3 : (pieceB 10 (wantB m) ++ (m.blocks.take j).flatMap (pieceB 18)).length ≤ 650000 := by rw [List.length_append]; omega
          generalize (pieceB 10 (wantB m) ++ (m.blocks.take j).flatMap (pieceB 18)) = bs at HS hl3 hstep
          have HSTEP := Lib.hid hstep
          (try simp only at hl2)
          have b1 : bs.length + ((pieceB 18) q).length ≤ maxLen := by unfold maxLen; (try simp only); omega
          have b2 : (bs.length + ((pieceB 18) q).length) * 1 ≤ 140737488355328 := by (try simp only); omega
          (try simp only at b1 b2)
          clear hl1 hstep hl3
          have hqb := HF.out.blocks q (List.mem_of_getElem? hq)
          have HP : Hid (∀ W, Below w.heap.size w W → Calls Tryd.prog 23 #[.int .u8 18, .slice A1 q.length c1] W (Fresh W (pieceB 18 q))) := Lib.hid (fun W hW => piece_any 18 q A1 c1 W (ron hr1 hW) hq1 (by omega))
          clear hq hcc hr1
          go_wp2_with (first
            | (go_at_call 23; (with_reducible refine (HP.out _ HS.out.so.below).mono ?_); clear HP; rintro e3 w3 ⟨⟨v3, rfl, ho⟩, hb⟩; obtain ⟨A3, c3, rfl, hc3, hr3⟩ := own_shape ho; have HS3 := Lib.hid (HS.out.later hb); have HR3 := Lib.hid hr3; clear ho hb hr3)
            | (at_builtin; refine wpList_append_any _ rfl (.tmp 40) (.tmp 42) 32 rfl w.heap.size 5 i0 (.int .u8 0) 1 1 Tryd.underlying32 hi hz0 hz1 hz2 rfl (by decide) _ _ _ rfl HS3.out.so.own w3.heap.size A3 _ c3 _ rfl HR3.out (u8s_one _) b1 b2 HS3.out.so.below.size ?_; rintro v4 w4 hown4 hg4 _ _; have HS4 := Lib.hid (HS3.out.app hown4 hg4); clear hown4 hg4)
            | fail)
          go_roundw
          case rel => exact ⟨j + 1, by omega, by go_num, by rw [← HSTEP.out]; exact HS4⟩
          case measure => simp [intOf]; omega
        · have g1 : ¬ (j : Int) < (m.blocks.length : Int) := by omega
          have hall := flat_all (pieceB 18) m.blocks j (by omega)
          have hlx := flat_le2 (pieceB 18) 5000 m.blocks (fun e he => Nat.le_trans (piece_le (HF.out.blocks e he) (by omega)) (by omega)) j
          rw [hall] at HS hlx
          clear hall
          have hm2 : ((pieceB 10 (wantB m) ++ m.blocks.flatMap (pieceB 18))).length ≤ 250000 := by rw [List.length_append]; omega
          have k3 : wr.cell? ⟨w.heap.size, 3, none⟩ = some (.slice Dp m.payload.length dp) := HS.out.box.cell 3
          clear hlx
          obtain ⟨w6, hw6⟩ : ∃ x, x = wr := ⟨wr, rfl⟩
          obtain ⟨v6, hv6⟩ : ∃ x, x = u6 := ⟨u6, rfl⟩
          subst hw6 hv6
          have HS6 := HS
          go_wp2
          have HX : Hid (SB w #[.slice De m.ents.length de, .bool m.full, .slice Db m.blocks.length db, .slice Dp m.payload.length dp, .slice Dr m.pres.length dr, .int .i32 m.pending] w6 v6 ((pieceB 10 (wantB m) ++ m.blocks.flatMap (pieceB 18)) ++ (m.payload.take 0).flatMap (fun b => pieceB 26 (bloB b)))) := Lib.hid (by rw [List.take_zero, List.flatMap_nil, List.append_nil]; exact HS6.out)
          go_loopw [6, 48] (fun s6 si wr => ∃ j : Nat, j ≤ m.payload.length ∧ si = .int .i64 j ∧ Hid (SB w #[.slice De m.ents.length de, .bool m.full, .slice Db m.blocks.length db, .slice Dp m.payload.length dp, .slice Dr m.pres.length dr, .int .i32 m.pending] wr s6 ((pieceB 10 (wantB m) ++ m.blocks.flatMap (pieceB 18)) ++ (m.payload.take j).flatMap (fun b => pieceB 26 (bloB b))))) (fun _ si _ => m.payload.length - (intOf si).toNat)
          case atStart => exact ⟨0, Nat.zero_le _, rfl, HX.out⟩
          case round =>
            obtain ⟨j, hj, rfl, HS⟩ := hrel
            clear HX
            by_cases hlt : j < m.payload.length
            · obtain ⟨q, hq⟩ : ∃ q, m.payload[j]? = some q := ⟨_, List.getElem?_eq_getElem hlt⟩
              obtain ⟨bp, op, rfl, hbl, hcc⟩ := Rp.out.field (F := bloF) (s := 2) (fun _ => rfl) (by omega) HS.out.so.below hq rfl
              have g1 : (j : Int) < (m.payload.length : Int) := by omega
              have hsz := HS.out.so.below.size
              have hblr : bp < wr.heap.size := by omega
              obtain ⟨u0, k0, f0⟩ := hcc 0 _ rfl
              obtain ⟨u1, k1, f1⟩ := hcc 1 _ rfl
              obtain ⟨A1, c1, rfl, hq1, hr1, _⟩ := f0
              obtain ⟨A2, c2, rfl, hq2, hr2, _⟩ := f1
              simp only [Nat.add_zero] at k0
              have hl1 := flat_le2 (fun b => pieceB 26 (bloB b)) 5000 m.payload (fun e he => Nat.le_trans (piece_le (bloB_le (HF.out.payload e he)) (by omega)) (by omega)) j
              have hl2 : ((fun b => pieceB 26 (bloB b)) q).length ≤ 5000 := (fun e he => Nat.le_trans (piece_le (bloB_le (HF.out.payload e he)) (by omega)) (by omega)) q (List.mem_of_getElem? hq)
              have hstep : ((pieceB 10 (wantB m) ++ m.blocks.flatMap (pieceB 18)) ++ (m.payload.take j).flatMap (fun b => pieceB 26 (bloB b))) ++ (fun b => pieceB 26 (bloB b)) q = (pieceB 10 (wantB m) ++ m.blocks.flatMap (pieceB 18)) ++ (m.payload.take (j + 1)).flatMap (fun b => pieceB 26 (bloB b)) := by rw [List.append_assoc, flat_tk (fun b => pieceB 26 (bloB b)) m.payload j q hq]
              have hl3 : ((pieceB 10 (wantB m) ++ m.blocks.flatMap (pieceB 18)) ++ (m.payload.take j).flatMap (fun b => pieceB 26 (bloB b))).length ≤ 650000 := by rw [List.length_append]; omega
              generalize ((pieceB 10 (wantB m) ++ m.blocks.flatMap (pieceB 18)) ++ (m.payload.take j).flatMap (fun b => pieceB 26 (bloB b))) = bs at HS hl3 hstep
              have HSTEP := Lib.hid hstep
              (try simp only at hl2)
              have b1 : bs.length + ((fun b => pieceB 26 (bloB b)) q).length ≤ maxLen := by unfold maxLen; (try simp only); omega
              have b2 : (bs.length + ((fun b => pieceB 26 (bloB b)) q).length) * 1 ≤ 140737488355328 := by (try simp only); omega
              (try simp only at b1 b2)
              clear hl1 hstep hl3
              have hqb := HF.out.payload q (List.mem_of_getElem? hq)
              have HP1 : Hid (∀ W, Below w.heap.size w W → Calls Tryd.prog 23 #[.int .u8 10, .slice A1 q.pre.length c1] W (Fresh W (pieceB 10 q.pre))) := Lib.hid (fun W hW => piece_any 10 q.pre A1 c1 W (ron hr1 hW) hq1 (by omega))
              have HP2 : Hid (∀ W, Below w.heap.size w W → Calls Tryd.prog 23 #[.int .u8 18, .slice A2 q.data.length c2] W (Fresh W (pieceB 18 q.data))) := Lib.hid (fun W hW => piece_any 18 q.data A2 c2 W (ron hr2 hW) hq2 (by omega))
              have hbl2 := bloB_le hqb
              have HP3 : Hid (∀ A c W, Reads W W.heap.size 1 A (bloB q).length (u8s (bloB q)) → (bloB q).length ≤ c → Calls Tryd.prog 23 #[.int .u8 26, .slice A (bloB q).length c] W (Fresh W (pieceB 26 (bloB q)))) := Lib.hid (fun A c W h1 h2 => piece_any 26 (bloB q) A c W h1 h2 (by omega))
              have HSW := Lib.hid (HS.out.later (below_one wr (.cells #[.slice A1 q.pre.length c1, .slice A2 q.data.length c2] 52)))
              have HBX := Lib.hid (Blk.new wr 52 #[.slice A1 q.pre.length c1, .slice A2 q.data.length c2])
              have HWS : Hid ((wr.alloc (.cells #[.slice A1 q.pre.length c1, .slice A2 q.data.length c2] 52)).heap.size = wr.heap.size + 1) := Lib.hid (by simp)
              have hpl1 : (partB 10 q.pre).length ≤ 100011 := partB_le (by omega)
              have hpl2 : (pieceB 10 q.pre).length ≤ 2011 := piece_le hqb.1 (by omega)
              have hpl3 : (pieceB 18 q.data).length ≤ 2011 := piece_le hqb.2 (by omega)
              have d1 : ([] : List UInt8).length + (pieceB 10 q.pre).length ≤ maxLen := by unfold maxLen; simp; omega
              have d2 : (([] : List UInt8).length + (pieceB 10 q.pre).length) * 1 ≤ 140737488355328 := by simp; omega
              have d3 : (partB 10 q.pre).length + (pieceB 18 q.data).length ≤ maxLen := by unfold maxLen; omega
              have d4 : ((partB 10 q.pre).length + (pieceB 18 q.data).length) * 1 ≤ 140737488355328 := by omega
              clear hq hcc hr1 hr2 hbl2
              go_upto_if 55 with fail
              go_cut [11] from 55 to 60 (fun s11 wx => SoFar (wr.alloc (.cells #[.slice A1 q.pre.length c1, .slice A2 q.data.length c2] 52)) wx s11 (partB 10 q.pre))
              case first =>
                by_cases hp : 0 < q.pre.length
                · have hp2 : (0 : Int) < (q.pre.length : Int) := by omega
                  have HE : Hid (([] : List UInt8) ++ pieceB 10 q.pre = partB 10 q.pre) := Lib.hid (by rw [List.nil_append]; unfold partB; rw [if_pos hp])
                  clear hp
                  go_wp2_with (first
                    | (go_at_call 23; (with_reducible refine (HP1.out _ HSW.out.so.below).mono ?_); clear HP1; rintro e3 w3 ⟨⟨v3, rfl, ho⟩, hb⟩; obtain ⟨A3, c3, rfl, hc3, hr3⟩ := own_shape ho; have HN := Lib.hid ((SoFar.start (wr.alloc (.cells #[.slice A1 q.pre.length c1, .slice A2 q.data.length c2] 52))).later hb); have HR3 := Lib.hid hr3; clear ho hb hr3)
                    | (at_builtin; refine wpList_append_any _ rfl (.tmp 56) (.tmp 59) 32 rfl (wr.alloc (.cells #[.slice A1 q.pre.length c1, .slice A2 q.data.length c2] 52)).heap.size 5 i0 (.int .u8 0) 1 1 Tryd.underlying32 hi hz0 hz1 hz2 rfl (by decide) _ _ _ rfl HN.out.own w3.heap.size A3 _ c3 _ rfl HR3.out (u8s_one _) d1 d2 HN.out.below.size ?_; rintro v4 w4 hown4 hg4 _ _; have hn := HN.out.app hown4 hg4; rw [HE.out] at hn; have HN4 := Lib.hid hn; clear hown4 hg4 hn)
                    | fail)
                  go_meet
                  exact HN4.out
                · have hp2 : ¬ (0 : Int) < (q.pre.length : Int) := by omega
                  have HE : Hid (([] : List UInt8) = partB 10 q.pre) := Lib.hid (by unfold partB; rw [if_neg hp])
                  clear hp
                  go_wp2
                  go_meet
                  rw [← HE.out]
                  exact SoFar.start _
              case rest =>
                have HCUT := Lib.hid hcut
                have HSC := Lib.hid (HSW.out.later hcut.below)
                have hbx := bkeep hcut.below HBX.out
                have k1 : wc.cell? ⟨wr.heap.size, 1, none⟩ = some (.slice A2 q.data.length c2) := hbx.cell 1
                clear hcut hbx
                go_upto_if 64 with fail
                go_cut [11] from 64 to 69 (fun s11 wx => SoFar (wr.alloc (.cells #[.slice A1 q.pre.length c1, .slice A2 q.data.length c2] 52)) wx s11 (bloB q))
                case first =>
                  by_cases hp : 0 < q.data.length
                  · have hp2 : (0 : Int) < (q.data.length : Int) := by omega
                    have HE : Hid (partB 10 q.pre ++ pieceB 18 q.data = bloB q) := Lib.hid (by (show _ = _ ++ partB 18 q.data); rw [show partB 18 q.data = pieceB 18 q.data from if_pos hp])
                    clear hp
                    go_wp2_with (first
                      | (go_at_call 23; (with_reducible refine (HP2.out _ HSC.out.so.below).mono ?_); clear HP2; rintro e3 w3 ⟨⟨v3, rfl, ho⟩, hb⟩; obtain ⟨A3, c3, rfl, hc3, hr3⟩ := own_shape ho; have HN := Lib.hid (HCUT.out.later hb); have HR3 := Lib.hid hr3; clear ho hb hr3)
                      | (at_builtin; refine wpList_append_any _ rfl (.tmp 65) (.tmp 68) 32 rfl (wr.alloc (.cells #[.slice A1 q.pre.length c1, .slice A2 q.data.length c2] 52)).heap.size 5 i0 (.int .u8 0) 1 1 Tryd.underlying32 hi hz0 hz1 hz2 rfl (by decide) _ _ _ rfl HN.out.own w3.heap.size A3 _ c3 _ rfl HR3.out (u8s_one _) d3 d4 HN.out.below.size ?_; rintro v4 w4 hown4 hg4 _ _; have hn := HN.out.app hown4 hg4; rw [HE.out] at hn; have HN4 := Lib.hid hn; clear hown4 hg4 hn)
                      | fail)
                    go_meet
                    exact HN4.out
                  · have hp2 : ¬ (0 : Int) < (q.data.length : Int) := by omega
                    have HE : Hid (partB 10 q.pre = bloB q) := Lib.hid (by (show _ = _ ++ partB 18 q.data); rw [show partB 18 q.data = [] from if_neg hp, List.append_nil])
                    clear hp
                    go_wp2
                    go_meet
                    rw [← HE.out]
                    exact HCUT.out
                case rest =>
                  have HSD := Lib.hid (HSW.out.later hcut.below)
                  obtain ⟨A5, c5, hv5, hc5, hr5⟩ := own_shape hcut.own
                  have HR5 := Lib.hid hr5
                  subst hv5
                  clear hcut hr5 k1
                  go_wp2_with (first
                    | (go_at_call 23; (with_reducible refine (HP3.out _ _ _ HR5.out hc5).mono ?_); clear HP3; rintro e3 w3 ⟨⟨v3, rfl, ho⟩, hb⟩; obtain ⟨A3, c3, rfl, hc3, hr3⟩ := own_shape ho; have HS3 := Lib.hid (HSD.out.later hb); have HR3 := Lib.hid hr3; clear ho hb hr3)
                    | (at_builtin; refine wpList_append_any _ rfl (.tmp 70) (.tmp 72) 32 rfl w.heap.size 5 i0 (.int .u8 0) 1 1 Tryd.underlying32 hi hz0 hz1 hz2 rfl (by decide) _ _ _ rfl HS3.out.so.own w3.heap.size A3 _ c3 _ rfl HR3.out (u8s_one _) b1 b2 HS3.out.so.below.size ?_; rintro v4 w4 hown4 hg4 _ _; have HS4 := Lib.hid (HS3.out.app hown4 hg4); clear hown4 hg4)
                    | fail)
                  go_roundw
                  case rel => exact ⟨j + 1, by omega, by go_num, by rw [← HSTEP.out]; exact HS4⟩
                  case measure => simp [intOf]; omega
            · have g1 : ¬ (j : Int) < (m.payload.length : Int) := by omega
              have hall := flat_all (fun b => pieceB 26 (bloB b)) m.payload j (by omega)
              have hlx := flat_le2 (fun b => pieceB 26 (bloB b)) 5000 m.payload (fun e he => Nat.le_trans (piece_le (bloB_le (HF.out.payload e he)) (by omega)) (by omega)) j
              rw [hall] at HS hlx
              clear hall
              have hm3 : (((pieceB 10 (wantB m) ++ m.blocks.flatMap (pieceB 18)) ++ m.payload.flatMap (fun b => pieceB 26 (bloB b)))).length ≤ 450000 := by rw [List.length_append]; omega
              have k4 : wr.cell? ⟨w.heap.size, 4, none⟩ = some (.slice Dr m.pres.length dr) := HS.out.box.cell 4
              clear hlx
              obtain ⟨w7, hw7⟩ : ∃ x, x = wr := ⟨wr, rfl⟩
              obtain ⟨v7, hv7⟩ : ∃ x, x = u6 := ⟨u6, rfl⟩
              subst hw7 hv7
              have HS7 := HS
              go_wp2
              have HX : Hid (SB w #[.slice De m.ents.length de, .bool m.full, .slice Db m.blocks.length db, .slice Dp m.payload.length dp, .slice Dr m.pres.length dr, .int .i32 m.pending] w7 v7 (((pieceB 10 (wantB m) ++ m.blocks.flatMap (pieceB 18)) ++ m.payload.flatMap (fun b => pieceB 26 (bloB b))) ++ (m.pres.take 0).flatMap (fun p => pieceB 34 (preB p)))) := Lib.hid (by rw [List.take_zero, List.flatMap_nil, List.append_nil]; exact HS7.out)
              go_loopw [6, 78] (fun s6 si wr => ∃ j : Nat, j ≤ m.pres.length ∧ si = .int .i64 j ∧ Hid (SB w #[.slice De m.ents.length de, .bool m.full, .slice Db m.blocks.length db, .slice Dp m.payload.length dp, .slice Dr m.pres.length dr, .int .i32 m.pending] wr s6 (((pieceB 10 (wantB m) ++ m.blocks.flatMap (pieceB 18)) ++ m.payload.flatMap (fun b => pieceB 26 (bloB b))) ++ (m.pres.take j).flatMap (fun p => pieceB 34 (preB p))))) (fun _ si _ => m.pres.length - (intOf si).toNat)
              case atStart => exact ⟨0, Nat.zero_le _, rfl, HX.out⟩
              case round =>
                obtain ⟨j, hj, rfl, HS⟩ := hrel
                clear HX
                by_cases hlt : j < m.pres.length
                · obtain ⟨q, hq⟩ : ∃ q, m.pres[j]? = some q := ⟨_, List.getElem?_eq_getElem hlt⟩
                  obtain ⟨bp, op, rfl, hbl, hcc⟩ := Rr.out.field (F := preF) (s := 2) (fun _ => rfl) (by omega) HS.out.so.below hq rfl
                  have g1 : (j : Int) < (m.pres.length : Int) := by omega
                  have hsz := HS.out.so.below.size
                  have hblr : bp < wr.heap.size := by omega
                  obtain ⟨u0, k0, f0⟩ := hcc 0 _ rfl
                  obtain ⟨_, k1, rfl, _⟩ := hcc 1 _ rfl
                  obtain ⟨A1, c1, rfl, hq1, hr1, _⟩ := f0
                  simp only [Nat.add_zero] at k0
                  have hl1 := flat_le2 (fun p => pieceB 34 (preB p)) 5000 m.pres (fun e he => Nat.le_trans (piece_le (preB_le (HF.out.pres e he)) (by omega)) (by omega)) j
                  have hl2 : ((fun p => pieceB 34 (preB p)) q).length ≤ 5000 := (fun e he => Nat.le_trans (piece_le (preB_le (HF.out.pres e he)) (by omega)) (by omega)) q (List.mem_of_getElem? hq)
                  have hstep : (((pieceB 10 (wantB m) ++ m.blocks.flatMap (pieceB 18)) ++ m.payload.flatMap (fun b => pieceB 26 (bloB b))) ++ (m.pres.take j).flatMap (fun p => pieceB 34 (preB p))) ++ (fun p => pieceB 34 (preB p)) q = ((pieceB 10 (wantB m) ++ m.blocks.flatMap (pieceB 18)) ++ m.payload.flatMap (fun b => pieceB 26 (bloB b))) ++ (m.pres.take (j + 1)).flatMap (fun p => pieceB 34 (preB p)) := by rw [List.append_assoc, flat_tk (fun p => pieceB 34 (preB p)) m.pres j q hq]
                  have hl3 : (((pieceB 10 (wantB m) ++ m.blocks.flatMap (pieceB 18)) ++ m.payload.flatMap (fun b => pieceB 26 (bloB b))) ++ (m.pres.take j).flatMap (fun p => pieceB 34 (preB p))).length ≤ 650000 := by rw [List.length_append]; omega
                  generalize (((pieceB 10 (wantB m) ++ m.blocks.flatMap (pieceB 18)) ++ m.payload.flatMap (fun b => pieceB 26 (bloB b))) ++ (m.pres.take j).flatMap (fun p => pieceB 34 (preB p))) = bs at HS hl3 hstep
                  have HSTEP := Lib.hid hstep
                  (try simp only at hl2)
                  have b1 : bs.length + ((fun p => pieceB 34 (preB p)) q).length ≤ maxLen := by unfold maxLen; (try simp only); omega
                  have b2 : (bs.length + ((fun p => pieceB 34 (preB p)) q).length) * 1 ≤ 140737488355328 := by (try simp only); omega
                  (try simp only at b1 b2)
                  clear hl1 hstep hl3
                  have hqb := HF.out.pres q (List.mem_of_getElem? hq)
                  have hqr := HG.out.pres q (List.mem_of_getElem? hq)
                  have hbl2 := preB_le hqb
                  have HE1 := Lib.hid (fun W (hW : Below w.heap.size w W) => presenceBytes_any q A1 c1 W (ron hr1 hW) hq1 (by omega) hqr)
                  have HP : Hid (∀ A c W, Reads W W.heap.size 1 A (preB q).length (u8s (preB q)) → (preB q).length ≤ c → Calls Tryd.prog 23 #[.int .u8 34, .slice A (preB q).length c] W (Fresh W (pieceB 34 (preB q)))) := Lib.hid (fun A c W h1 h2 => piece_any 34 (preB q) A c W h1 h2 (by omega))
                  have HS1 := Lib.hid (HS.out.later (below_one wr (.cells #[.slice A1 q.cid.length c1, .int .i32 q.type] 54)))
                  clear hq hcc hr1 hqr hbl2
                  go_wp2_with (first
                    | (go_at_call 26; (with_reducible refine (HE1.out _ HS1.out.so.below).mono ?_); clear HE1; rintro e2 w2 ⟨⟨v2, rfl, ho⟩, hb⟩; obtain ⟨A2, c2, rfl, hc2, hr2⟩ := own_shape ho; have HS2 := Lib.hid (HS1.out.later hb); have HR2 := Lib.hid hr2; clear ho hb hr2)
                    | (go_at_call 23; (with_reducible refine (HP.out _ _ _ HR2.out hc2).mono ?_); clear HP; rintro e3 w3 ⟨⟨v3, rfl, ho⟩, hb⟩; obtain ⟨A3, c3, rfl, hc3, hr3⟩ := own_shape ho; have HS3 := Lib.hid (HS2.out.later hb); have HR3 := Lib.hid hr3; clear ho hb hr3)
                    | (at_builtin; refine wpList_append_any _ rfl (.tmp 82) (.tmp 85) 32 rfl w.heap.size 5 i0 (.int .u8 0) 1 1 Tryd.underlying32 hi hz0 hz1 hz2 rfl (by decide) _ _ _ rfl HS3.out.so.own w3.heap.size A3 _ c3 _ rfl HR3.out (u8s_one _) b1 b2 HS3.out.so.below.size ?_; rintro v4 w4 hown4 hg4 _ _; have HS4 := Lib.hid (HS3.out.app hown4 hg4); clear hown4 hg4)
                    | fail)
                  go_roundw
                  case rel => exact ⟨j + 1, by omega, by go_num, by rw [← HSTEP.out]; exact HS4⟩
                  case measure => simp [intOf]; omega
                · have g1 : ¬ (j : Int) < (m.pres.length : Int) := by omega
                  have hall := flat_all (fun p => pieceB 34 (preB p)) m.pres j (by omega)
                  have hlx := flat_le2 (fun p => pieceB 34 (preB p)) 5000 m.pres (fun e he => Nat.le_trans (piece_le (preB_le (HF.out.pres e he)) (by omega)) (by omega)) j
                  rw [hall] at HS hlx
                  clear hall
                  have hm4 : ((((pieceB 10 (wantB m) ++ m.blocks.flatMap (pieceB 18)) ++ m.payload.flatMap (fun b => pieceB 26 (bloB b))) ++ m.pres.flatMap (fun p => pieceB 34 (preB p)))).length ≤ 650000 := by rw [List.length_append]; omega
                  have k5 : wr.cell? ⟨w.heap.size, 5, none⟩ = some (.int .i32 m.pending) := HS.out.box.cell 5
                  clear hlx
                  have hnl := numB_le 40 m.pending
                  have hpw := HG.out.pend
                  have HM : Hid ((((pieceB 10 (wantB m) ++ m.blocks.flatMap (pieceB 18)) ++ m.payload.flatMap (fun b => pieceB 26 (bloB b))) ++ m.pres.flatMap (fun p => pieceB 34 (preB p))) ++ numB 40 m.pending = msgB m) := Lib.hid (by unfold msgB; simp only [List.append_assoc])
                  generalize (((pieceB 10 (wantB m) ++ m.blocks.flatMap (pieceB 18)) ++ m.payload.flatMap (fun b => pieceB 26 (bloB b))) ++ m.pres.flatMap (fun p => pieceB 34 (preB p))) = bs at HS hm4 HM
                  have b1 : bs.length + (numB 40 m.pending).length ≤ maxLen := by unfold maxLen; omega
                  have b2 : (bs.length + (numB 40 m.pending).length) * 1 ≤ 140737488355328 := by omega
                  have HC : Hid (∀ W, Below wr.heap.size wr W → Calls Tryd.prog 27 #[.int .u8 40, .int .i64 m.pending] W (Fresh W (numB 40 m.pending))) := Lib.hid (fun W _ => counted_any 40 m.pending W)
                  go_wp2_with (first
                    | (go_at_call 27; (with_reducible refine (HC.out _ (Below.refl _ _)).mono ?_); clear HC; rintro e2 w2 ⟨⟨v2, rfl, ho⟩, hb⟩; obtain ⟨A2, c2, rfl, hc2, hr2⟩ := own_shape ho; have HS2 := Lib.hid (HS.out.later hb); have HR2 := Lib.hid hr2; clear ho hb hr2)
                    | (at_builtin; refine wpList_append_any _ rfl (.tmp 88) (.tmp 92) 32 rfl w.heap.size 5 i0 (.int .u8 0) 1 1 Tryd.underlying32 hi hz0 hz1 hz2 rfl (by decide) _ _ _ rfl HS2.out.so.own w2.heap.size A2 _ c2 _ rfl HR2.out (u8s_one _) b1 b2 HS2.out.so.below.size ?_; rintro v4 w4 hown4 hg4 _ _; have hs := HS2.out.app hown4 hg4; rw [HM.out] at hs; have HS4 := Lib.hid hs; clear hown4 hg4 hs)
                    | fail)
                  go_ret
                  exact ⟨⟨_, rfl, HS4.out.so.own⟩, HS4.out.so.below⟩
end Go.Proofs.YtocdbecakefnnaaDoor
