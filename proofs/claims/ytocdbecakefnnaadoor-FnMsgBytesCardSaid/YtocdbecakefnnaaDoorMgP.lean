/- The size of a message. (Written by msizegen.py.) -/
import Derived.Deep.Cut
import Derived.Test.YtocdbecakefnnaaDoorMgQ
namespace Go.Proofs.YtocdbecakefnnaaDoor
open Go.RowKit

/-- A message in memory, from place o of block b on. -/
structure MsgAt (w : World) (B b o : Nat) (m : Msg) : Prop where
  want : WantAt w B b o m
  blocks : ∃ v, w.cell? ⟨b, o + 2, none⟩ = some v ∧ RowO w B 1 blkF m.blocks v
  payload : ∃ v, w.cell? ⟨b, o + 3, none⟩ = some v ∧ RowO w B 2 bloF m.payload v
  pres : ∃ v, w.cell? ⟨b, o + 4, none⟩ = some v ∧ RowO w B 2 ppreF m.pres v
  pend : w.cell? ⟨b, o + 5, none⟩ = some (.int .i32 m.pending)
theorem MsgAt.below {w w' : World} {B b o : Nat} {m : Msg} (h : MsgAt w B b o m) (hb : Below B w w') : MsgAt w' B b o m := by
  obtain ⟨h0, ⟨v1, h1, r1⟩, ⟨v2, h2, r2⟩, ⟨v3, h3, r3⟩, h4⟩ := h
  have hc : ∀ i, w'.cell? ⟨b, o + i, none⟩ = w.cell? ⟨b, o + i, none⟩ := fun i => hb.cell (p := ⟨b, o + i, none⟩) h0.lt
  exact ⟨h0.below hb, ⟨v1, (hc 2).trans h1, r1.below hb⟩, ⟨v2, (hc 3).trans h2, r2.below hb⟩, ⟨v3, (hc 4).trans h3, r3.below hb⟩, (hc 5).trans h4⟩
/-- What is asked of a message's sizes. -/
structure MsgFit (m : Msg) : Prop where
  ents : ∀ e ∈ m.ents, e.cid.length ≤ 1000
  pres : ∀ e ∈ m.pres, e.cid.length ≤ 1000
  blocks : ∀ q ∈ m.blocks, q.length ≤ 2000
  payload : ∀ q ∈ m.payload, q.pre.length ≤ 2000 ∧ q.data.length ≤ 2000
  n1 : m.ents.length ≤ 40
  n2 : m.blocks.length ≤ 40
  n3 : m.payload.length ≤ 40
  n4 : m.pres.length ≤ 40
def blocksB (l : List (List UInt8)) : List UInt8 := l.flatMap (pieceB 18)
def payloadB (l : List Blo) : List UInt8 := l.flatMap fun b => pieceB 26 (bloB b)
def presB (l : List Pre) : List UInt8 := l.flatMap fun p => pieceB 34 (preB p)
theorem bloB_le {q : Blo} (h : q.pre.length ≤ 2000 ∧ q.data.length ≤ 2000) : (bloB q).length ≤ 4022 := by
  have h1 := uv_le q.pre.length (by omega)
  have h2 := uv_le q.data.length (by omega)
  unfold bloB partB
  rw [List.length_append]
  split <;> split <;> simp only [pieceB_length, List.length_nil] <;> omega
theorem blocksB_snoc (l : List (List UInt8)) (q : List UInt8) : (blocksB (l ++ [q])).length = (blocksB l).length + (1 + q.length + (uv q.length).length) := by
  unfold blocksB
  rw [List.flatMap_append, List.length_append, List.flatMap_cons, List.flatMap_nil, List.append_nil, pieceB_length]
theorem payloadB_snoc (l : List Blo) (q : Blo) : (payloadB (l ++ [q])).length = (payloadB l).length + (1 + (bloB q).length + (uv (bloB q).length).length) := by
  unfold payloadB
  rw [List.flatMap_append, List.length_append, List.flatMap_cons, List.flatMap_nil, List.append_nil, pieceB_length]
theorem presB_snoc (l : List Pre) (q : Pre) : (presB (l ++ [q])).length = (presB l).length + (1 + (preB q).length + (uv (preB q).length).length) := by
  unfold presB
  rw [List.flatMap_append, List.length_append, List.flatMap_cons, List.flatMap_nil, List.append_nil, pieceB_length]
theorem blocksB_le {l : List (List UInt8)} (h : ∀ e ∈ l, e.length ≤ 2000) : (blocksB l).length ≤ l.length * 5000 := flat_le _ 5000 l fun e he => Nat.le_trans (piece_le (h e he) (by omega)) (by omega)
theorem payloadB_le {l : List Blo} (h : ∀ q ∈ l, q.pre.length ≤ 2000 ∧ q.data.length ≤ 2000) : (payloadB l).length ≤ l.length * 5000 := flat_le _ 5000 l fun e he => Nat.le_trans (piece_le (bloB_le (h e he)) (by omega)) (by omega)
theorem presB_le {l : List Pre} (h : ∀ e ∈ l, e.cid.length ≤ 1000) : (presB l).length ≤ l.length * 5000 := flat_le _ 5000 l fun e he => Nat.le_trans (piece_le (preB_le (h e he)) (by omega)) (by omega)
theorem wantB_le {m : Msg} (h : MsgFit m) : (wantB m).length ≤ 42100 := by
  have h1 := entsB_le h.ents
  have h2 := flagB_le 16 m.full
  have h3 := h.n1
  rw [wantB_len]
  omega
theorem msgB_len (m : Msg) : (msgB m).length = 1 + (wantB m).length + (uv (wantB m).length).length + (blocksB m.blocks).length + (payloadB m.payload).length + (presB m.pres).length + (numB 40 m.pending).length := by
  unfold msgB blocksB payloadB presB
  simp only [List.length_append, pieceB_length]
  omega
theorem copy_blo {w : World} {B : Nat} {q : Blo} {A1 A2 : Option Addr} {c1 c2 : Nat} (hB : B ≤ w.heap.size) (r1 : Reads w B 1 A1 q.pre.length (u8s q.pre)) (r2 : Reads w B 1 A2 q.data.length (u8s q.data)) (k1 : q.pre.length ≤ c1) (k2 : q.data.length ≤ c2) :
    ObjB (w.alloc (.cells #[.slice A1 q.pre.length c1, .slice A2 q.data.length c2] 101)) (w.heap.size + 1) w.heap.size 0 (bloF q) :=
  ⟨Nat.lt_succ_self _, fun i f hf => by
    have hb := Blk.new w 101 #[.slice A1 q.pre.length c1, .slice A2 q.data.length c2]
    have hi : i < 2 := (List.getElem?_eq_some_iff.1 hf).1
    rw [Nat.zero_add, hb.cell i]
    obtain rfl | rfl : i = 0 ∨ i = 1 := by omega
    · injection hf with hf; subst hf; exact ⟨_, rfl, A1, c1, rfl, k1, (r1.alloc hB _).more (by omega)⟩
    · injection hf with hf; subst hf; exact ⟨_, rfl, A2, c2, rfl, k2, (r2.alloc hB _).more (by omega)⟩⟩
theorem copy_pre (w : World) (q : Pre) : ObjB (w.alloc (.cells #[.string ⟨q.cid.toArray⟩, .int .i32 q.type] 104)) (w.heap.size + 1) w.heap.size 0 (ppreF q) :=
  ⟨Nat.lt_succ_self _, fun i f hf => by
    have hb := Blk.new w 104 #[.string ⟨q.cid.toArray⟩, .int .i32 q.type]
    have hi : i < 2 := (List.getElem?_eq_some_iff.1 hf).1
    rw [Nat.zero_add, hb.cell i]
    obtain rfl | rfl : i = 0 ∨ i = 1 := by omega
    all_goals (injection hf with hf; subst hf; exact ⟨_, rfl, rfl⟩)⟩
set_option maxRecDepth 100000 in
set_option maxHeartbeats 8000000 in
theorem msgSize_any (m : Msg) (b o B : Nat) (w : World) (h : MsgAt w B b o m) (hB : B ≤ w.heap.size) (hf : MsgFit m) :
    Calls Tryd.prog 22 #[.pointer (some ⟨b, o, none⟩)] w fun e w' => e = .returned (.int .i64 ((msgB m).length : Nat)) ∧ Below w.heap.size w w' := by
  have HLEN := Lib.hid (msgB_len m)
  have HM := Lib.hid h
  have HF := Lib.hid hf
  have hlt := h.want.lt
  have hbl : b < w.heap.size := by omega
  have HWS := Lib.hid (wantSize_any m b o B w h.want hB hf.ents hf.n1)
  have hle := wantB_le hf
  have hu := uv_le (wantB m).length (by omega)
  obtain ⟨L0, hL0⟩ : ∃ L, (wantB m).length = L := ⟨_, rfl⟩
  obtain ⟨U0, hU0⟩ : ∃ U, (uv (wantB m).length).length = U := ⟨_, rfl⟩
  rw [hU0] at HLEN hu
  rw [hL0] at HLEN HWS hle hU0
  have HU0 := Lib.hid hU0
  clear h hf hL0 hU0
  have RB : Hid (∀ W, Below w.heap.size w W → ∃ v, W.cell? ⟨b, o + 2, none⟩ = some v ∧ RowO W B 1 blkF m.blocks v) := Lib.hid (fun W hW => (HM.out.below (hW.mono hB)).blocks)
  have RP : Hid (∀ W, Below w.heap.size w W → ∃ v, W.cell? ⟨b, o + 3, none⟩ = some v ∧ RowO W B 2 bloF m.payload v) := Lib.hid (fun W hW => (HM.out.below (hW.mono hB)).payload)
  have RR : Hid (∀ W, Below w.heap.size w W → ∃ v, W.cell? ⟨b, o + 4, none⟩ = some v ∧ RowO W B 2 ppreF m.pres v) := Lib.hid (fun W hW => (HM.out.below (hW.mono hB)).pres)
  have PD : Hid (∀ W, Below w.heap.size w W → W.cell? ⟨b, o + 5, none⟩ = some (.int .i32 m.pending)) := Lib.hid (fun W hW => (HM.out.below (hW.mono hB)).pend)
  go_enter Tryd.func22, Tryd.ntmps22
  obtain ⟨v1, d1, A1, e1, rfl, -, -⟩ := HM.out.blocks
  go_upto_if 30 with (first
    | (go_at_call 44; (with_reducible refine HWS.out.mono ?_); clear HWS; rintro e w1 ⟨rfl, hb⟩; have HB := Lib.hid hb; have dd := (hb.cell (p := ⟨b, o + 2, none⟩) hbl).trans d1; clear hb)
    | (go_at_call 45; (with_reducible refine (sov_any L0 _ (by omega)).mono ?_); rw [HU0.out]; rintro e w7 ⟨rfl, rfl⟩)
    | fail)
  have hfl0 := blocksB_le HF.out.blocks
  have hn0 := HF.out.n2
  go_cut [2, 3] from 30 (fun s2 _ wx => s2 = .int .i64 ((1 + L0 + U0 + (blocksB m.blocks).length : Nat) : Int) ∧ Hid (Below w.heap.size w wx))
  case first =>
    by_cases h0 : 0 < m.blocks.length
    · have g0 : (0 : Int) < (m.blocks.length : Int) := by omega
      obtain ⟨vx, dx, Ax, cx, rfl, hcx, hrow⟩ := RB.out _ HB.out
      rw [dd] at dx
      injection dx with dx
      injection dx with dx1 dx2 dx3
      subst dx1 dx3
      clear dx2
      obtain ⟨b', o', rfl, hx⟩ := hrow h0
      have HX := Lib.hid hx
      have hb' : b' < B := (hx 0 _ (List.getElem?_eq_getElem h0)).lt
      clear hx
      have hsw := HB.out.size
      go_wp2
      rw [show decide (0 < m.blocks.length) = true from decide_eq_true h0]
      obtain ⟨wA, hwA⟩ : ∃ z, z = w1 := ⟨_, rfl⟩
      go_loopw [2, 36] (fun s2 si wr => ∃ j n : Nat, j ≤ m.blocks.length ∧ si = .int .i64 j ∧ s2 = .int .i64 ((1 + L0 + U0 + n : Nat) : Int) ∧ Hid (n = (blocksB (m.blocks.take j)).length) ∧ Hid (Below w1.heap.size w1 wr)) (fun _ si _ => m.blocks.length - (intOf si).toNat)
      case atStart => exact ⟨0, 0, Nat.zero_le _, rfl, by rfl, rfl, Below.refl _ _⟩
      case round =>
        obtain ⟨j, n, hj, rfl, rfl, HS, HW⟩ := hrel
        by_cases hlt2 : j < m.blocks.length
        · obtain ⟨q, hq, htk⟩ : ∃ q, m.blocks[j]? = some q ∧ m.blocks.take (j + 1) = m.blocks.take j ++ [q] := ⟨_, List.getElem?_eq_getElem hlt2, List.take_succ_eq_append_getElem hlt2⟩
          have hob := (HX.out j q hq).below (HW.out.mono (Nat.le_trans hB hsw))
          obtain ⟨Aq, cq, q0, hcq, rq⟩ := hob.byt (i := 0) rfl
          simp only [Nat.add_zero, Nat.mul_one] at q0
          have hqs := HF.out.blocks q (List.mem_of_getElem? hq)
          have hu2 := uv_le q.length (by omega)
          have hnl : n ≤ 200000 := by
            have h1 := blocksB_le (l := m.blocks.take j) (fun e he => HF.out.blocks e (List.mem_of_mem_take he))
            rw [← HS.out, List.length_take] at h1
            omega
          have HTK : Hid ((blocksB (m.blocks.take (j + 1))).length = n + (1 + q.length + (uv q.length).length)) := Lib.hid (by rw [htk, blocksB_snoc, ← HS.out])
          have hsz := HW.out.size
          have hbw : b' < wr.heap.size := by omega
          have g1 : (j : Int) < (m.blocks.length : Int) := by omega
          obtain ⟨Lq, hL⟩ : ∃ L, q.length = L := ⟨_, rfl⟩
          obtain ⟨Uq, hU⟩ : ∃ U, (uv q.length).length = U := ⟨_, rfl⟩
          rw [hU] at HTK hu2
          rw [hL] at HTK hU
          rw [hL] at q0 hqs
          have HU := Lib.hid hU
          clear hq htk hob HS hU hL
          have HW1 := HW
          go_wp2_with (first | (go_at_call 45; (with_reducible refine (sov_any Lq _ (by omega)).mono ?_); rw [HU.out]; rintro e w7 ⟨rfl, rfl⟩) | fail)
          go_roundw
          case rel => exact ⟨j + 1, n + (1 + Lq + Uq), by omega, by go_num, by go_num, HTK.out.symm, HW1.out⟩
          case measure => simp [intOf]; omega
        · have g1 : ¬ (j : Int) < (m.blocks.length : Int) := by omega
          have HN : Hid ((blocksB m.blocks).length = n) := Lib.hid (by have h := HS.out; rw [List.take_of_length_le (show m.blocks.length ≤ j by omega)] at h; exact h.symm)
          clear HS
          go_wp2
          go_meet
          exact ⟨by rw [HN.out]; exact num_i64 (by omega), below_then HB.out hsw HW.out⟩
    · have g0 : ¬ (0 : Int) < (m.blocks.length : Int) := by omega
      have he : m.blocks = [] := List.eq_nil_of_length_eq_zero (by omega)
      have HN : Hid ((blocksB m.blocks).length = 0) := Lib.hid (by rw [he]; rfl)
      clear he
      go_wp2
      go_meet
      exact ⟨by rw [HN.out]; exact num_i64 (by omega), HB.out⟩
  case rest =>
    obtain ⟨rfl, HB0⟩ := hcut
    clear dd HB
    obtain ⟨m0, hm0⟩ : ∃ u, (blocksB m.blocks).length = u := ⟨_, rfl⟩
    rw [hm0] at hfl0
    rw [hm0] at HLEN
    rw [hm0]
    clear hm0
    obtain ⟨vv1, dd, AA1, ee1, rfl, -, -⟩ := RP.out _ HB0.out
    go_upto_if 56 with fail
    have hfl1 := payloadB_le HF.out.payload
    have hn1 := HF.out.n3
    go_cut [2, 3] from 56 (fun s2 _ wx => s2 = .int .i64 ((1 + L0 + U0 + m0 + (payloadB m.payload).length : Nat) : Int) ∧ Hid (Below w.heap.size w wx))
    case first =>
      by_cases h0 : 0 < m.payload.length
      · have g0 : (0 : Int) < (m.payload.length : Int) := by omega
        obtain ⟨vx, dx, Ax, cx, rfl, hcx, hrow⟩ := RP.out _ HB0.out
        rw [dd] at dx
        injection dx with dx
        injection dx with dx1 dx2 dx3
        subst dx1 dx3
        clear dx2
        obtain ⟨b', o', rfl, hx⟩ := hrow h0
        have HX := Lib.hid hx
        have hb' : b' < B := (hx 0 _ (List.getElem?_eq_getElem h0)).lt
        clear hx
        have hsw := HB0.out.size
        go_wp2
        rw [show decide (0 < m.payload.length) = true from decide_eq_true h0]
        obtain ⟨wA, hwA⟩ : ∃ z, z = wc := ⟨_, rfl⟩
        go_loopw [2, 62] (fun s2 si wr => ∃ j n : Nat, j ≤ m.payload.length ∧ si = .int .i64 j ∧ s2 = .int .i64 ((1 + L0 + U0 + m0 + n : Nat) : Int) ∧ Hid (n = (payloadB (m.payload.take j)).length) ∧ Hid (Below wc.heap.size wc wr)) (fun _ si _ => m.payload.length - (intOf si).toNat)
        case atStart => exact ⟨0, 0, Nat.zero_le _, rfl, by rfl, rfl, Below.refl _ _⟩
        case round =>
          obtain ⟨j, n, hj, rfl, rfl, HS, HW⟩ := hrel
          by_cases hlt2 : j < m.payload.length
          · obtain ⟨q, hq, htk⟩ : ∃ q, m.payload[j]? = some q ∧ m.payload.take (j + 1) = m.payload.take j ++ [q] := ⟨_, List.getElem?_eq_getElem hlt2, List.take_succ_eq_append_getElem hlt2⟩
            have hob := (HX.out j q hq).below (HW.out.mono (Nat.le_trans hB hsw))
            obtain ⟨Aq, cq, q0, hcq, rq⟩ := hob.byt (i := 0) rfl
            obtain ⟨Ap, cp, q1, hcp, rp⟩ := hob.byt (i := 1) rfl
            simp only [Nat.add_zero] at q0
            have hqs := HF.out.payload q (List.mem_of_getElem? hq)
            have hqb := bloB_le hqs
            have hu2 := uv_le (bloB q).length (by omega)
            have HES := Lib.hid (bloSize_any q wr.heap.size 0 (wr.heap.size + 1) _ (by omega) (by omega) (copy_blo (Nat.le_trans (Nat.le_trans hB hsw) HW.out.size) rq rp hcq hcp))
            have hnl : n ≤ 200000 := by
              have h1 := payloadB_le (l := m.payload.take j) (fun e he => HF.out.payload e (List.mem_of_mem_take he))
              rw [← HS.out, List.length_take] at h1
              omega
            have HTK : Hid ((payloadB (m.payload.take (j + 1))).length = n + (1 + (bloB q).length + (uv (bloB q).length).length)) := Lib.hid (by rw [htk, payloadB_snoc, ← HS.out])
            have hsz := HW.out.size
            have hbw : b' < wr.heap.size := by omega
            have g1 : (j : Int) < (m.payload.length : Int) := by omega
            obtain ⟨Lq, hL⟩ : ∃ L, (bloB q).length = L := ⟨_, rfl⟩
            obtain ⟨Uq, hU⟩ : ∃ U, (uv (bloB q).length).length = U := ⟨_, rfl⟩
            rw [hU] at HTK hu2
            rw [hL] at HTK hU
            rw [hL] at HES hqb
            have HU := Lib.hid hU
            clear hq htk hob HS hU hL
            go_wp2_with (first | (go_at_call 46; (with_reducible refine HES.out.mono ?_); clear HES; rintro e w8 ⟨rfl, rfl⟩; have HW1 := Lib.hid (below_then HW.out hsz (below_one wr (.cells #[.slice Aq q.pre.length cq, .slice Ap q.data.length cp] 101)))) | (go_at_call 45; (with_reducible refine (sov_any Lq _ (by omega)).mono ?_); rw [HU.out]; rintro e w7 ⟨rfl, rfl⟩) | fail)
            go_roundw
            case rel => exact ⟨j + 1, n + (1 + Lq + Uq), by omega, by go_num, by go_num, HTK.out.symm, HW1.out⟩
            case measure => simp [intOf]; omega
          · have g1 : ¬ (j : Int) < (m.payload.length : Int) := by omega
            have HN : Hid ((payloadB m.payload).length = n) := Lib.hid (by have h := HS.out; rw [List.take_of_length_le (show m.payload.length ≤ j by omega)] at h; exact h.symm)
            clear HS
            go_wp2
            go_meet
            exact ⟨by rw [HN.out]; exact num_i64 (by omega), below_then HB0.out hsw HW.out⟩
      · have g0 : ¬ (0 : Int) < (m.payload.length : Int) := by omega
        have he : m.payload = [] := List.eq_nil_of_length_eq_zero (by omega)
        have HN : Hid ((payloadB m.payload).length = 0) := Lib.hid (by rw [he]; rfl)
        clear he
        go_wp2
        go_meet
        exact ⟨by rw [HN.out]; exact num_i64 (by omega), HB0.out⟩
    case rest =>
      obtain ⟨rfl, HB1⟩ := hcut
      clear dd HB0
      obtain ⟨m1, hm1⟩ : ∃ u, (payloadB m.payload).length = u := ⟨_, rfl⟩
      rw [hm1] at hfl1
      rw [hm1] at HLEN
      rw [hm1]
      clear hm1
      obtain ⟨vv2, dd, AA2, ee2, rfl, -, -⟩ := RR.out _ HB1.out
      go_upto_if 81 with fail
      have hfl2 := presB_le HF.out.pres
      have hn2 := HF.out.n4
      go_cut [2, 3] from 81 (fun s2 _ wx => s2 = .int .i64 ((1 + L0 + U0 + m0 + m1 + (presB m.pres).length : Nat) : Int) ∧ Hid (Below w.heap.size w wx))
      case first =>
        by_cases h0 : 0 < m.pres.length
        · have g0 : (0 : Int) < (m.pres.length : Int) := by omega
          obtain ⟨vx, dx, Ax, cx, rfl, hcx, hrow⟩ := RR.out _ HB1.out
          rw [dd] at dx
          injection dx with dx
          injection dx with dx1 dx2 dx3
          subst dx1 dx3
          clear dx2
          obtain ⟨b', o', rfl, hx⟩ := hrow h0
          have HX := Lib.hid hx
          have hb' : b' < B := (hx 0 _ (List.getElem?_eq_getElem h0)).lt
          clear hx
          have hsw := HB1.out.size
          go_wp2
          rw [show decide (0 < m.pres.length) = true from decide_eq_true h0]
          obtain ⟨wA, hwA⟩ : ∃ z, z = wc := ⟨_, rfl⟩
          go_loopw [2, 87] (fun s2 si wr => ∃ j n : Nat, j ≤ m.pres.length ∧ si = .int .i64 j ∧ s2 = .int .i64 ((1 + L0 + U0 + m0 + m1 + n : Nat) : Int) ∧ Hid (n = (presB (m.pres.take j)).length) ∧ Hid (Below wc.heap.size wc wr)) (fun _ si _ => m.pres.length - (intOf si).toNat)
          case atStart => exact ⟨0, 0, Nat.zero_le _, rfl, by rfl, rfl, Below.refl _ _⟩
          case round =>
            obtain ⟨j, n, hj, rfl, rfl, HS, HW⟩ := hrel
            by_cases hlt2 : j < m.pres.length
            · obtain ⟨q, hq, htk⟩ : ∃ q, m.pres[j]? = some q ∧ m.pres.take (j + 1) = m.pres.take j ++ [q] := ⟨_, List.getElem?_eq_getElem hlt2, List.take_succ_eq_append_getElem hlt2⟩
              have hob := (HX.out j q hq).below (HW.out.mono (Nat.le_trans hB hsw))
              have q0 := hob.lit (i := 0) rfl
              have q1 := hob.lit (i := 1) rfl
              simp only [Nat.add_zero] at q0
              have hqs := HF.out.pres q (List.mem_of_getElem? hq)
              have hqb := preB_le hqs
              have hu2 := uv_le (preB q).length (by omega)
              have HES := Lib.hid (preSize_any q wr.heap.size 0 (wr.heap.size + 1) _ (by omega) (copy_pre wr q) (by simp))
              have hnl : n ≤ 200000 := by
                have h1 := presB_le (l := m.pres.take j) (fun e he => HF.out.pres e (List.mem_of_mem_take he))
                rw [← HS.out, List.length_take] at h1
                omega
              have HTK : Hid ((presB (m.pres.take (j + 1))).length = n + (1 + (preB q).length + (uv (preB q).length).length)) := Lib.hid (by rw [htk, presB_snoc, ← HS.out])
              have hsz := HW.out.size
              have hbw : b' < wr.heap.size := by omega
              have g1 : (j : Int) < (m.pres.length : Int) := by omega
              obtain ⟨Lq, hL⟩ : ∃ L, (preB q).length = L := ⟨_, rfl⟩
              obtain ⟨Uq, hU⟩ : ∃ U, (uv (preB q).length).length = U := ⟨_, rfl⟩
              rw [hU] at HTK hu2
              rw [hL] at HTK hU
              rw [hL] at HES hqb
              have HU := Lib.hid hU
              clear hq htk hob HS hU hL
              go_wp2_with (first | (go_at_call 47; (with_reducible refine HES.out.mono ?_); clear HES; rintro e w8 ⟨rfl, hb⟩; have HW1 := Lib.hid (below_then HW.out hsz (below_then (below_one wr (.cells #[.string ⟨q.cid.toArray⟩, .int .i32 q.type] 104)) (by simp) hb)); clear hb) | (go_at_call 45; (with_reducible refine (sov_any Lq _ (by omega)).mono ?_); rw [HU.out]; rintro e w7 ⟨rfl, rfl⟩) | fail)
              go_roundw
              case rel => exact ⟨j + 1, n + (1 + Lq + Uq), by omega, by go_num, by go_num, HTK.out.symm, HW1.out⟩
              case measure => simp [intOf]; omega
            · have g1 : ¬ (j : Int) < (m.pres.length : Int) := by omega
              have HN : Hid ((presB m.pres).length = n) := Lib.hid (by have h := HS.out; rw [List.take_of_length_le (show m.pres.length ≤ j by omega)] at h; exact h.symm)
              clear HS
              go_wp2
              go_meet
              exact ⟨by rw [HN.out]; exact num_i64 (by omega), below_then HB1.out hsw HW.out⟩
        · have g0 : ¬ (0 : Int) < (m.pres.length : Int) := by omega
          have he : m.pres = [] := List.eq_nil_of_length_eq_zero (by omega)
          have HN : Hid ((presB m.pres).length = 0) := Lib.hid (by rw [he]; rfl)
          clear he
          go_wp2
          go_meet
          exact ⟨by rw [HN.out]; exact num_i64 (by omega), HB1.out⟩
      case rest =>
        obtain ⟨rfl, HB2⟩ := hcut
        clear dd HB1
        obtain ⟨m2, hm2⟩ : ∃ u, (presB m.pres).length = u := ⟨_, rfl⟩
        rw [hm2] at hfl2
        rw [hm2] at HLEN
        rw [hm2]
        clear hm2
        have dd := PD.out _ HB2.out
        have hle5 := numB_le 40 m.pending
        by_cases hz : m.pending = 0
        · have e0 : (numB 40 m.pending).length = 0 := by rw [hz]; rfl
          have E0 := Lib.hid e0
          clear e0
          rw [hz] at dd
          go_wp2
          go_ret
          exact ⟨by rw [HLEN.out, E0.out]; exact congrArg Ending.returned (num_i64 (by omega)), HB2.out⟩
        · have hw := u64z_wrap m.pending
          have hlt2 := u64z_lt m.pending
          have e0 : (numB 40 m.pending).length = 1 + (uv (u64z m.pending)).length := by rw [numB_some _ hz, List.length_cons]; omega
          have hv := uv_le (u64z m.pending) hlt2
          generalize u64z m.pending = y at *
          obtain ⟨u2, hu2⟩ : ∃ u, (uv y).length = u := ⟨_, rfl⟩
          rw [hu2] at e0 hv
          have E0 := Lib.hid e0
          have HU := Lib.hid hu2
          clear e0 hu2 hle5
          go_wp2_with (first | (go_at_call 45; (with_reducible refine (sov_any y _ (by omega)).mono ?_); rw [HU.out]; rintro e w7 ⟨rfl, rfl⟩) | fail)
          go_ret
          exact ⟨by rw [HLEN.out, E0.out]; exact congrArg Ending.returned (num_i64 (by omega)), HB2.out⟩
end Go.Proofs.YtocdbecakefnnaaDoor
