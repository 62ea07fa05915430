/- The size of a want list. -/
import Derived.Test.YtocdbecakefnnaaDoorMgR
namespace Go.Proofs.YtocdbecakefnnaaDoor
open Go.RowKit

/-- A want list in memory, from place o of block b on. -/
structure WantAt (w : World) (B b o : Nat) (m : Msg) : Prop where
  lt : b < B
  rows : ∃ v, w.cell? ⟨b, o, none⟩ = some v ∧ RowO w B 5 pentF m.ents v
  full : w.cell? ⟨b, o + 1, none⟩ = some (.bool m.full)
theorem WantAt.below {w w' : World} {B b o : Nat} {m : Msg} (h : WantAt w B b o m) (hb : Below B w w') : WantAt w' B b o m := by
  obtain ⟨h1, ⟨v, h2, h3⟩, h4⟩ := h
  exact ⟨h1, ⟨v, (hb.cell (p := ⟨b, o, none⟩) h1).trans h2, h3.below hb⟩, (hb.cell (p := ⟨b, o + 1, none⟩) h1).trans h4⟩
def entsB (l : List Ent) : List UInt8 := l.flatMap fun e => pieceB 10 (entB e)
theorem entsB_snoc (l : List Ent) (q : Ent) : (entsB (l ++ [q])).length = (entsB l).length + (1 + (entB q).length + (uv (entB q).length).length) := by
  unfold entsB
  rw [List.flatMap_append, List.length_append, List.flatMap_cons, List.flatMap_nil, List.append_nil, pieceB_length]
theorem entsB_le {l : List Ent} (h : ∀ e ∈ l, e.cid.length ≤ 1000) : (entsB l).length ≤ l.length * 1051 :=
  flat_le _ 1051 l fun e he => piece_le (entB_le (h e he)) (by omega)
theorem wantB_len (m : Msg) : (wantB m).length = (entsB m.ents).length + (flagB 16 m.full).length := by unfold wantB entsB; rw [List.length_append]
set_option maxRecDepth 100000 in
set_option maxHeartbeats 4000000 in
theorem wantSize_any (m : Msg) (b o B : Nat) (w : World) (h : WantAt w B b o m) (hB : B ≤ w.heap.size) (hc : ∀ e ∈ m.ents, e.cid.length ≤ 1000) (hn : m.ents.length ≤ 40) :
    Calls Tryd.prog 44 #[.pointer (some ⟨b, o, none⟩)] w fun e w' => e = .returned (.int .i64 ((wantB m).length : Nat)) ∧ Below w.heap.size w w' := by
  obtain ⟨hlt, ⟨v, k0, A, c, rfl, hcc, hrow⟩, k1⟩ := h
  have hbl : b < w.heap.size := by omega
  have HROW := Lib.hid hrow
  have HC := Lib.hid hc
  have HLEN := Lib.hid (wantB_len m)
  have K1 := Lib.hid k1
  have HLE := Lib.hid (entsB_le hc)
  clear hrow hc k1
  have FIN : Hid (∀ wr, Below w.heap.size w wr → wr.cell? ⟨b, o + 1, none⟩ = some (.bool m.full)) := Lib.hid (fun wr hw => (hw.cell (p := ⟨b, o + 1, none⟩) hbl).trans K1.out)
  by_cases h0 : 0 < m.ents.length
  · have g0 : (0 : Int) < (m.ents.length : Int) := by omega
    obtain ⟨b', o', rfl, hx⟩ := HROW.out h0
    have HX := Lib.hid hx
    have hb' : b' < B := (hx 0 _ (List.getElem?_eq_getElem h0)).lt
    clear hx
    go_enter Tryd.func44, Tryd.ntmps44
    go_wp2
    go_loopw [2, 20] (fun s2 si wr => ∃ j n : Nat, j ≤ m.ents.length ∧ si = .int .i64 j ∧ s2 = .int .i64 n ∧ Hid (n = (entsB (m.ents.take j)).length) ∧ Hid (Below w.heap.size w wr)) (fun _ si _ => m.ents.length - (intOf si).toNat)
    case atStart => exact ⟨0, 0, Nat.zero_le _, rfl, rfl, rfl, Below.refl _ _⟩
    case round =>
      obtain ⟨j, n, hj, rfl, rfl, HS, HW⟩ := hrel
      by_cases hlt2 : j < m.ents.length
      · obtain ⟨q, hq, htk⟩ : ∃ q, m.ents[j]? = some q ∧ m.ents.take (j + 1) = m.ents.take j ++ [q] := ⟨_, List.getElem?_eq_getElem hlt2, List.take_succ_eq_append_getElem hlt2⟩
        have hob := (HX.out j q hq).below (HW.out.mono hB)
        have q0 := hob.lit (i := 0) rfl
        have q1 := hob.lit (i := 1) rfl
        have q2 := hob.lit (i := 2) rfl
        have q3 := hob.lit (i := 3) rfl
        have q4 := hob.lit (i := 4) rfl
        simp only [Nat.add_zero] at q0
        have hcq := HC.out q (List.mem_of_getElem? hq)
        have hle := entB_le hcq
        have hu := uv_le (entB q).length (by omega)
        have hnl : n ≤ 42040 := by
          have h1 := entsB_le (l := m.ents.take j) (fun e he => HC.out e (List.mem_of_mem_take he))
          rw [← HS.out, List.length_take] at h1
          omega
        have HTK : Hid ((entsB (m.ents.take (j + 1))).length = n + (1 + (entB q).length + (uv (entB q).length).length)) := Lib.hid (by rw [htk, entsB_snoc, ← HS.out])
        have HES := Lib.hid (entSize_any q wr.heap.size 0 (wr.heap.size + 1) _ (by omega) (copy_ent wr q) (by simp))
        have hsz := HW.out.size
        have hbw : b' < wr.heap.size := by omega
        have g1 : (j : Int) < (m.ents.length : Int) := by omega
        obtain ⟨L, hL⟩ : ∃ L, (entB q).length = L := ⟨_, rfl⟩
        obtain ⟨U, hU⟩ : ∃ U, (uv (entB q).length).length = U := ⟨_, rfl⟩
        rw [hU] at HTK hu
        rw [hL] at HTK HES hle
        rw [hL] at hU
        have HU := Lib.hid hU
        clear hq htk hob HS hU hL hcq
        go_wp2_with (first
          | (go_at_call 60; (with_reducible refine HES.out.mono ?_); clear HES; rintro e w1 ⟨rfl, hb⟩; have HW1 := Lib.hid (below_then HW.out hsz (below_then (below_one wr _) (by simp) hb)); clear hb)
          | (go_at_call 45; (with_reducible refine (sov_any L _ (by omega)).mono ?_); rw [HU.out]; rintro e w7 ⟨rfl, rfl⟩)
          | fail)
        go_roundw
        case rel => exact ⟨j + 1, n + (1 + L + U), by omega, by go_num, by go_num, HTK.out.symm, HW1.out⟩
        case measure => simp [intOf]; omega
      · have g1 : ¬ (j : Int) < (m.ents.length : Int) := by omega
        have HN : Hid (n = (entsB m.ents).length) := Lib.hid (by have h := HS.out; rw [List.take_of_length_le (show m.ents.length ≤ j by omega)] at h; exact h)
        have hnl : n ≤ 42040 := by have h1 := HLE.out; rw [← HN.out] at h1; omega
        have kf := FIN.out wr HW.out
        clear HS
        cases hf : m.full with
        | true =>
          rw [hf] at kf
          have HF := Lib.hid hf
          clear hf
          go_wp2
          go_ret
          exact ⟨by rw [HLEN.out, HF.out, ← HN.out]; exact congrArg Ending.returned (num_i64 (by simp [flagB])), HW.out⟩
        | false =>
          rw [hf] at kf
          have HF := Lib.hid hf
          clear hf
          go_wp2
          go_ret
          exact ⟨by rw [HLEN.out, HF.out, ← HN.out]; exact congrArg Ending.returned (num_i64 (by simp [flagB])), HW.out⟩
  · have g0 : ¬ (0 : Int) < (m.ents.length : Int) := by omega
    have he : m.ents = [] := List.eq_nil_of_length_eq_zero (by omega)
    have HN : Hid ((entsB m.ents).length = 0) := Lib.hid (by rw [he]; rfl)
    have kf := FIN.out w (Below.refl _ _)
    clear he
    cases hf : m.full with
    | true =>
      rw [hf] at kf
      have HF := Lib.hid hf
      clear hf
      go_enter Tryd.func44, Tryd.ntmps44
      go_wp2
      go_ret
      exact ⟨by rw [HLEN.out, HF.out, HN.out]; exact congrArg Ending.returned (num_i64 (by simp [flagB])), Below.refl _ _⟩
    | false =>
      rw [hf] at kf
      have HF := Lib.hid hf
      clear hf
      go_enter Tryd.func44, Tryd.ntmps44
      go_wp2
      go_ret
      exact ⟨by rw [HLEN.out, HF.out, HN.out]; exact congrArg Ending.returned (num_i64 (by simp [flagB])), Below.refl _ _⟩
end Go.Proofs.YtocdbecakefnnaaDoor
