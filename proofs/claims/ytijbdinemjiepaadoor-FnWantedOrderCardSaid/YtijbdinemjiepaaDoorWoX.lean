/- laws.wants, laws.sameEntry and slices.EqualFunc over entries. -/
import Derived.IntWalk
import Derived.Test.YtijbdinemjiepaaDoorWoW
import Derived.Test.YtijbdinemjiepaaDoorWoC
namespace Go.Proofs.YtijbdinemjiepaaDoor
open Go.RowKit

/-- A step of a row of steps, as a later world has it. -/
theorem step_at {w W : World} {ss : List Stp} {A : Option Addr} {n c : Nat} (h : RowF w 4 n (ss.flatMap stpF) (.slice A n c)) (hn : ss.length = n) (hW : Below w.heap.size w W) {j : Nat} (hj : j < n) :
    ∃ s b o, ss[j]? = some s ∧ A = some ⟨b, o, none⟩ ∧ b < W.heap.size ∧ W.cell? ⟨b, o + j * 4, none⟩ = some (.int .u8 (s.kind : Nat)) ∧ W.cell? ⟨b, o + j * 4 + 1, none⟩ = some (.int .u8 (s.cid : Nat)) ∧ W.cell? ⟨b, o + j * 4 + 2, none⟩ = some (.int .i32 s.prio) ∧ W.cell? ⟨b, o + j * 4 + 3, none⟩ = some (.bool s.hv) := by
  have hq : ss[j]? = some ss[j] := List.getElem?_eq_getElem (by omega)
  obtain ⟨b, o, ha, hb, hc⟩ := h.field (F := stpF) (fun _ => rfl) (by omega) hW hq hn
  obtain ⟨_, k0, rfl, _⟩ := hc 0 _ rfl
  obtain ⟨_, k1, rfl, _⟩ := hc 1 _ rfl
  obtain ⟨_, k2, rfl, _⟩ := hc 2 _ rfl
  obtain ⟨_, k3, rfl, _⟩ := hc 3 _ rfl
  exact ⟨_, b, o, hq, ha, Nat.lt_of_lt_of_le hb hW.size, k0, k1, k2, k3⟩
def wantsE (ss : List Stp) : List Wnt := ss.map fun s => wntE s s.cid
theorem Wants.app2 {w W W' : World} {v v' u : Value} {l : List Wnt} {xs : List Value} {s : Stp} {k : Nat} {kz : Int} (h : Wants w W v l xs) (hk : ((s.kind % 4 : Nat) : Int) = kz) (hu : W.ownsRow w.heap.size 5 1 u (identB k).length (u8s (identB k))) (ho : W'.ownsRow w.heap.size 54 4 v' (l.length + 1) (xs ++ [.int .i64 kz, u, .int .i32 s.prio, .bool s.hv])) (hg : W.grownBy W' v.ownBlock) : Wants w W' v' (l ++ [wntE s k]) (xs ++ [.int .i64 kz, u, .int .i32 s.prio, .bool s.hv]) := by
  subst hk
  exact h.app (q := wntE s k) hu ho hg
/-- Wants come back. -/
structure GivesW (w : World) (l : List Wnt) (r : Ending) (w' : World) : Prop where
  ex : ∃ v xs, r = .returned v ∧ Wants w w' v l xs
set_option linter.unusedSimpArgs false in
set_option maxRecDepth 100000 in
set_option maxHeartbeats 8000000 in
theorem wants_any (A : Option Addr) (n c : Nat) (ss : List Stp) (w : World) (h : RowF w 4 n (ss.flatMap stpF) (.slice A n c)) (hn : ss.length = n) (hn60 : n ≤ 100) (hk : ∀ s ∈ ss, s.kind < 256 ∧ s.cid < 256) :
    Calls Tryd.prog 20 #[.slice A n c] w (GivesW w (wantsE ss)) := by
  obtain ⟨i1, hi1, ha0, ha1, ha2⟩ := info_parts infoWant
  have HR := Lib.hid h
  have HN := Lib.hid hn
  have HK := Lib.hid hk
  clear h hn hk
  go_enter Tryd.func20, Tryd.ntmps20
  go_wp2
  go_loopw [3, 8] (fun s3 si wr => ∃ (j : Nat) (xs : List Value), j ≤ n ∧ si = .int .i64 j ∧ Hid (Wants w wr s3 (wantsE (ss.take j)) xs)) (fun _ si _ => n - (intOf si).toNat)
  case atStart => exact ⟨0, _, Nat.zero_le _, rfl, ⟨World.ownsRow_nil _ _ _ _, rfl, Below.refl _ _⟩⟩
  case round =>
    obtain ⟨j, xs, hj, rfl, HS⟩ := hrel
    by_cases hlt : j < n
    · obtain ⟨s, b, o, hs, rfl, hbl, k0, k1, k2, k3⟩ := step_at HR.out HN.out HS.out.bel hlt
      have hst : wantsE (ss.take (j + 1)) = wantsE (ss.take j) ++ [wntE s s.cid] := by unfold wantsE; rw [List.take_add_one, hs, List.map_append]; rfl
      have hwl : (wantsE (ss.take j)).length = j := by unfold wantsE; rw [List.length_map, List.length_take]; have := HN.out; omega
      have HST := Lib.hid hst
      generalize wantsE (ss.take j) = ws at HS HST hwl
      obtain ⟨hk1, hk2⟩ := HK.out s (List.mem_of_getElem? hs)
      have g1 : (j : Int) < (n : Int) := by omega
      have hku : (s.kind : Int) < 256 := by omega
      have hcu : (s.cid : Int) < 256 := by omega
      have e1 : ((s.kind : Nat) : Int).tmod 4 = ((s.kind % 4 : Nat) : Int) := by rw [Int.tmod_eq_emod_of_nonneg (by omega)]; omega
      have hkm : ((s.kind % 4 : Nat) : Int) < 4 := by omega
      generalize hkz : ((s.kind % 4 : Nat) : Int) = kz at e1 hkm
      have hkz0 : 0 ≤ kz := by omega
      have HKZ := Lib.hid hkz
      have hkw : IntKind.i64.wrap kz = kz := IntWalk.i64_in _ (by omega)
      have hb2 := below_one wr (.cells #[.int .u8 (s.kind : Nat), .int .u8 (s.cid : Nat), .int .i32 s.prio, .bool s.hv] 49)
      have HS1 := Lib.hid (HS.out.later hb2)
      have HQ := Lib.hid (Blk.new wr 49 #[.int .u8 (s.kind : Nat), .int .u8 (s.cid : Nat), .int .i32 s.prio, .bool s.hv])
      have HE := Lib.hid (fun W => entry_any s hk2 W)
      have b1 : ws.length + 1 ≤ maxLen := by unfold maxLen; omega
      have b2 : (ws.length + 1) * 40 ≤ 140737488355328 := by omega
      obtain ⟨A3, c3, rfl, _, _⟩ := own_shape HS.out.own
      clear hs hst hkz hb2 hwl
      go_wp2_with fail
      have hx1 := Lib.hid (HS1.out.later (below_drewN (Below.refl _ _) 1))
      go_region_held3 (fun w' => w'.cell? ⟨wr.heap.size, 0, none⟩ = some (.int .u8 (s.kind : Nat)) ∧ w'.cell? ⟨wr.heap.size, 1, none⟩ = some (.int .u8 (s.cid : Nat)) ∧ w'.cell? ⟨wr.heap.size, 2, none⟩ = some (.int .i32 s.prio) ∧ w'.cell? ⟨wr.heap.size, 3, none⟩ = some (.bool s.hv)) (first | exact ⟨HQ.out.cell 0, HQ.out.cell 1, HQ.out.cell 2, HQ.out.cell 3⟩ | exact ⟨(HQ.out.alloc _).cell 0, (HQ.out.alloc _).cell 1, (HQ.out.alloc _).cell 2, (HQ.out.alloc _).cell 3⟩ | exact ⟨HQ9.out.cell 0, HQ9.out.cell 1, HQ9.out.cell 2, HQ9.out.cell 3⟩) (first
        | (go_at_call 41; (with_reducible refine (HE.out _).mono ?_); clear HE; rintro e5 w5 ⟨⟨v5, rfl, ho⟩, hb⟩; obtain ⟨A5, c5, rfl, _, _⟩ := own_shape ho; have hb := undrew hb; have HO := Lib.hid (own_more (base' := w.heap.size) ho HS1.out.bel.size); have hy1 := Lib.hid (HS1.out.later hb); have hy2 := Lib.hid (bkeep hb HQ.out); clear HS1 HQ ho hb hx1; have HS1 := hy1; have HQ := hy2; clear hy1 hy2)
        | (refine step_append_row _ rfl (.tmp 12) (.tmp 20) 46 (by rfl) w.heap.size 54 i1 _ 4 40 Tryd.underlying46 hi1 ha0 ha1 ha2 rfl (by decide) (.slice A3 ws.length c3) ws.length xs (by rfl) (HS1.out.own.alloc _) _ _ 1 1 [.int .i64 kz, .slice A5 (identB s.cid).length c5, .int .i32 s.prio, .bool s.hv] (by rfl) (lit_new w5 _ _ 4 rfl (by omega)) (by intro u hu; simp at hu; rcases hu with rfl | rfl | rfl | rfl <;> rfl) b1 b2 (by have := HS1.out.bel.size; simp; omega) ?_; intro v8 w8 hown8 hg8 _; have hbl := below_one w5 (.cells #[.int .i64 kz, .slice A5 (identB s.cid).length c5, .int .i32 s.prio, .bool s.hv] 54); have HW8 : Hid (Wants w w8 v8 (ws ++ [wntE s s.cid]) (xs ++ [.int .i64 kz, .slice A5 (identB s.cid).length c5, .int .i32 s.prio, .bool s.hv])) := Lib.hid ((HS1.out.later hbl).app2 HKZ.out (own_below HO.out hbl) hown8 hg8); have HQ9 := Lib.hid ((bkeep hbl HQ.out).grown hg8 (fun e => own_blk_ne (HS1.out.later hbl).own (bkeep hbl HQ.out) (by decide) e.symm)); clear hown8 hg8 hbl)
        | fail)
      all_goals
        go_wp2
        go_roundw
        case rel => exact ⟨j + 1, _, by omega, by go_num, by rw [HST.out]; exact HW8⟩
        case measure => simp [intOf]; omega
    · have g1 : ¬ (j : Int) < (n : Int) := by omega
      have hall : wantsE (ss.take j) = wantsE ss := by rw [List.take_of_length_le (by have := HN.out; omega)]
      rw [hall] at HS
      clear hall
      go_wp2
      go_ret
      exact ⟨⟨_, xs, rfl, HS.out⟩⟩
end Go.Proofs.YtijbdinemjiepaaDoor
