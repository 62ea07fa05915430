/- Equal of a message: whether two messages tell the same. -/
import Derived.Test.YthgbhaackihbjaaDoorPbEq
namespace Go.Proofs.YthgbhaackihbjaaDoor
open Go.RowKit

theorem LinkObj.drewN {w : World} {lo B p : Nat} {m : ML} (h : LinkObj w lo B p m) (k : Nat) : LinkObj (w.drewN k) lo B p m := h.below (below_drewN (Below.refl B w) k)
def linksEq (a b : List ML) : Bool := (a.zip b).all fun p => linkEq p.1 p.2
def nodeEq (a b : MN) : Bool := decide (a.links.length = b.links.length) && linksEq a.links b.links && (optBytes a.data == optBytes b.data)
theorem linksEq_step (a b : List ML) (j : Nat) (h1 : j < a.length) (h2 : j < b.length) : linksEq (a.take (j + 1)) (b.take (j + 1)) = (linksEq (a.take j) (b.take j) && linkEq a[j] b[j]) := by
  unfold linksEq
  rw [take_snoc _ _ h1, take_snoc _ _ h2, List.zip_append (by simp; omega), List.all_append]
  simp
theorem linksEq_false {a b : List ML} {j : Nat} (h1 : j < a.length) (h2 : j < b.length) (h : linkEq a[j] b[j] = false) : linksEq a b = false := by
  unfold linksEq
  rw [List.all_eq_false]
  refine ⟨(a[j], b[j]), ?_, by simp [h]⟩
  refine List.mem_iff_getElem.mpr ⟨j, by simp; omega, by simp⟩
set_option maxRecDepth 100000 in
set_option maxHeartbeats 4000000 in
theorem nodeEq_any (p q lo B lo' B' : Nat) (m1 m2 : MN) (w : World) (h1 : NodeObj w lo B p m1) (h2 : NodeObj w lo' B' q m2) (hk1 : m1.links.length ≤ 20) (hk2 : m2.links.length ≤ 20) :
    Calls Tryd.prog 26 #[.pointer (some ⟨p, 0, none⟩), .iface 42 (.pointer (some ⟨q, 0, none⟩))] w fun e w' => e = .returned (.bool (nodeEq m1 m2)) ∧ ∃ k, w' = w.drewN k := by
  obtain ⟨links1, data1⟩ := m1
  obtain ⟨links2, data2⟩ := m2
  obtain ⟨_, _, ⟨A, n, c, ps, a0, _, hln, hr, hps⟩, ⟨v1, a1, b1⟩, un⟩ := h1
  obtain ⟨_, _, ⟨A', n', c', ps', a0', _, hln', hr', hps'⟩, ⟨v1', a1', b1'⟩, un'⟩ := h2
  simp only at hln hln' hps hps' hk1 hk2 b1 b1'
  obtain ⟨D, d, rfl, _, _, hd, _⟩ := b1
  obtain ⟨D', d', rfl, _, _, hd', _⟩ := b1'
  have HR := Lib.hid hr
  have HR' := Lib.hid hr'
  have HPS := Lib.hid hps
  have HPS' := Lib.hid hps'
  have HLN := Lib.hid hln
  have HLN' := Lib.hid hln'
  have HD := Lib.hid hd
  have HD' := Lib.hid hd'
  have hn20 : n ≤ 20 := by omega
  have hn20' : n' ≤ 20 := by omega
  clear hr hr' hps hps' hd hd' hk1 hk2
  simp only [nodeEq]
  generalize optBytes data1 = da at HD a1 ⊢
  generalize optBytes data2 = db at HD' a1' ⊢
  rw [hln, hln']
  clear hln hln'
  have hta : (Instr.typeAssert (.iface 42 (.pointer (some ⟨q, 0, none⟩))) 20 42 true).run Tryd.prog w = .ok (.tuple #[.pointer (some ⟨q, 0, none⟩), .bool true]) w := by kernel_rfl
  go_enter Tryd.func26, Tryd.ntmps26
  go_wp2_with fail
  go_quiet (fail)
  cases hnn : ((n : Int) != (n' : Int))
  · obtain rfl : n = n' := by simp at hnn; omega
    go_wp2
    go_loopw [9, 49] (fun _ i wr => ∃ j : Nat, j ≤ n ∧ i = .int .i64 j ∧ Hid (linksEq (links1.take j) (links2.take j) = true) ∧ Hid (∃ k, wr = w.drewN k)) (fun _ i _ => n - (intOf i).toNat)
    case atStart => exact ⟨0, Nat.zero_le _, rfl, rfl, _, rfl⟩
    case round =>
      obtain ⟨j, hj, rfl, HL, ⟨k, hk⟩⟩ := hrel
      have kc : ∀ x, wr.cell? x = w.cell? x := fun x => by rw [hk]; rfl
      have k0 := (kc _).trans a0
      have k0' := (kc _).trans a0'
      by_cases hlt : j < n
      · obtain ⟨b, o, rfl, hbB, hc⟩ := HR.out.lit (by omega)
        obtain ⟨b', o', rfl, hbB', hc'⟩ := HR'.out.lit (by omega)
        have hpl : ps.length = n := by have := HR.out.1; rw [ptrs_length] at this; omega
        have hpl' : ps'.length = n := by have := HR'.out.1; rw [ptrs_length] at this; omega
        have hjp : j < ps.length := by omega
        have hjp' : j < ps'.length := by omega
        have hcj := (kc _).trans (hc j (.pointer (some ⟨ps[j], 0, none⟩)) (by simp [ptrs, hjp]))
        have hcj' := (kc _).trans (hc' j (.pointer (some ⟨ps'[j], 0, none⟩)) (by simp [ptrs, hjp']))
        obtain ⟨x, hx, hlo⟩ := HPS.out j ps[j] (List.getElem?_eq_getElem hjp)
        obtain ⟨x', hx', hlo'⟩ := HPS'.out j ps'[j] (List.getElem?_eq_getElem hjp')
        have hjl : j < links1.length := by have := HLN.out; omega
        have hjl' : j < links2.length := by have := HLN'.out; omega
        have hxe : links1[j] = x := by
          rw [List.getElem?_eq_getElem hjl] at hx
          injection hx
        have hxe' : links2[j] = x' := by
          rw [List.getElem?_eq_getElem hjl'] at hx'
          injection hx'
        have hstep := linksEq_step links1 links2 j hjl hjl'
        have hfls := linksEq_false hjl hjl'
        rw [hxe, hxe'] at hstep hfls
        have hq := fun m => linkEq_any ps[j] ps'[j] lo B lo' B' x x' (wr.drewN m) (by rw [hk]; exact (hlo.drewN k).drewN m) (by rw [hk]; exact (hlo'.drewN k).drewN m)
        generalize ps[j] = q1 at hcj hq
        generalize ps'[j] = q2 at hcj' hq
        have HK := Lib.hid hk
        have HQ := Lib.hid hq
        have HSTEP := Lib.hid hstep
        have HFLS := Lib.hid hfls
        clear hq hk kc hc hc' hpl hpl' hjp hjp' hx hx' hlo hlo' hxe hxe' hstep hfls
        go_wp2_with fail
        go_quiet (first | (go_at_call 37; refine Calls.quiet_of (HQ.out _)))
        cases hle : linkEq x x'
        · have hf := HFLS.out hle
          have HF := Lib.hid hf
          clear hf
          go_wp2
          go_ret
          exact ⟨by simp [HF.out], k + nq, by rw [HK.out, World.drewN_drewN]⟩
        · have hst := HSTEP.out
          rw [HL.out, hle] at hst
          have HST := Lib.hid hst
          clear hst
          go_wp2
          go_roundw
          case rel => exact ⟨j + 1, by omega, by go_num, HST.out, k + nq, by rw [HK.out, World.drewN_drewN]⟩
          case measure => simp [intOf]; omega
      · obtain rfl : j = n := by omega
        have hl := HL.out
        rw [List.take_of_length_le (by have := HLN.out; omega), List.take_of_length_le (by have := HLN'.out; omega)] at hl
        have HL2 := Lib.hid hl
        have k1 := (kc _).trans a1
        have k1' := (kc _).trans a1'
        have ku := (kc _).trans un
        have ku' := (kc _).trans un'
        have hq := fun m => bytesEqual_any _ _ _ d _ d' _ _ da db (wr.drewN m) (by rw [hk]; exact (HD.out.drewN k).drewN m) (by rw [hk]; exact (HD'.out.drewN k).drewN m)
        have HQ := Lib.hid hq
        have HK := Lib.hid hk
        clear hl HL hk kc hq
        go_wp2_with fail
        go_quiet (first | (go_at_call 38; refine Calls.quiet_of_same (HQ.out _)))
        cases hde : da == db
        · go_wp2
          go_ret
          exact ⟨by simp, k + nq, by rw [HK.out, World.drewN_drewN]⟩
        · go_wp2_with fail
          go_quiet (first | (go_at_call 38; refine (nilEqual_any _).mono (fun e w' h => ⟨h.1, _, h.2⟩)) | (go_at_call 38; refine Calls.quiet_of_same (nilEqual_any _)))
          go_wp2
          go_ret
          refine ⟨by simp [HL2.out], ?_⟩
          first | exact ⟨_, by rw [HK.out, World.drewN_drewN]⟩ | exact ⟨_, by rw [HK.out, World.drewN_drewN, World.drewN_drewN]⟩
  · have hne : ¬ n = n' := by simp at hnn; omega
    go_wp2
    go_ret
    exact ⟨by simp [hne], _, rfl⟩
end Go.Proofs.YthgbhaackihbjaaDoor
