/- dagutils.MergeDiffs. -/
import Derived.Test.YtijbdinemjiepaaDoorDfQ
import Derived.Test.YtijbdinemjiepaaDoorFMap
namespace Go.Proofs.YtijbdinemjiepaaDoor
open Go.RowKit

/-- The cells of conflicts. -/
def pairP (q : Nat × Nat) : List Value := [.pointer (some ⟨q.1, 0, none⟩), .pointer (some ⟨q.2, 0, none⟩)]
def pairsP (l : List (Nat × Nat)) : List Value := l.flatMap pairP
theorem pairsP_snoc (l : List (Nat × Nat)) (q : Nat × Nat) : pairsP (l ++ [q]) = pairsP l ++ pairP q := by simp [pairsP]
theorem ptrs_snoc (l : List Nat) (g : Nat) : ptrs (l ++ [g]) = ptrs l ++ [.pointer (some ⟨g, 0, none⟩)] := by simp [ptrs]
theorem info2p : (Tryd.prog.info? 81).map (fun i => (i.zero, i.size, i.bytes)) = some (some (.agg #[.pointer none, .pointer none]), 2, 16) := by kernel_rfl
theorem lawS : Maps.Keyed Tryd.prog 9 := Maps.string_keyed Tryd.underlying9
theorem zeroP (w : World) : (zeroValue 69).run Tryd.prog w = .ok (.pointer none) w := by kernel_rfl
theorem keyS_of (s : ByteArray) (h : s.size ≤ 1000) : keyOf Tryd.prog 9 (.string s) = some (keyS s) := WideMaps.keyOf_string_mk Tryd.underlying9 (by unfold maxLen; omega)
/-- What the loops of MergeDiffs hold. -/
structure MS (w wr : World) (nm : Nat) (v9 v10 : Value) (s : StI Nat ByteArray) : Prop where
  map : FMap wr Tryd.prog 9 ptrR w.heap.size nm keyS ptrV s.f
  out : wr.ownsRow (w.heap.size + 1) 69 1 v9 s.out.length (ptrs s.out)
  con : wr.ownsRow (w.heap.size + 1) 81 2 v10 s.con.length (pairsP s.con)
  apart : Apart v9 v10
  below : Below w.heap.size w wr
theorem MS.size {w wr : World} {nm : Nat} {v9 v10 : Value} {s : StI Nat ByteArray} (h : MS w wr nm v9 v10 s) : w.heap.size + 1 ≤ wr.heap.size := h.map.lt
theorem MS.grow {w wr W : World} {nm : Nat} {v9 v10 : Value} {s : StI Nat ByteArray} (h : MS w wr nm v9 v10 s) (hb : Below wr.heap.size wr W) : MS w W nm v9 v10 s :=
  ⟨h.map.below hb h.map.lt, own_below h.out hb, own_below h.con hb, h.apart, below_then h.below h.below.size hb⟩
theorem MS.appOut {w wr W w' : World} {nm g : Nat} {v9 v10 v' : Value} {s : StI Nat ByteArray} (h : MS w wr nm v9 v10 s) (hb : Below wr.heap.size wr W) (ho : w'.ownsRow (w.heap.size + 1) 69 1 v' (s.out.length + 1) (ptrs s.out ++ [.pointer (some ⟨g, 0, none⟩)])) (hg : W.grownBy w' v9.ownBlock) (hat : v'.ownBlock = v9.ownBlock ∨ ∃ k, v'.ownBlock = some k ∧ W.heap.size ≤ k) :
    MS w w' nm v' v10 ⟨s.f, s.out ++ [g], s.con⟩ := by
  have h1 := h.grow hb
  refine ⟨h1.map.kept hg (fun e => ?_), ?_, own_beside h1.con hg h1.apart, apart_grown h1.con h1.apart hat, h1.below.grown hg h1.below.size (fun k hk => ?_)⟩
  · have := own_base h1.out _ e.symm; omega
  · show w'.ownsRow _ _ _ _ (s.out ++ [g]).length (ptrs (s.out ++ [g]))
    rw [ptrs_snoc, List.length_append]
    exact ho
  · have := own_base h1.out _ hk; omega
theorem MS.appCon {w wr W w' : World} {nm g y : Nat} {v9 v10 v' : Value} {s : StI Nat ByteArray} (h : MS w wr nm v9 v10 s) (hb : Below wr.heap.size wr W) (ho : w'.ownsRow (w.heap.size + 1) 81 2 v' (s.con.length + 1) (pairsP s.con ++ [.pointer (some ⟨g, 0, none⟩), .pointer (some ⟨y, 0, none⟩)])) (hg : W.grownBy w' v10.ownBlock) (hat : v'.ownBlock = v10.ownBlock ∨ ∃ k, v'.ownBlock = some k ∧ W.heap.size ≤ k) :
    MS w w' nm v9 v' ⟨s.f, s.out, s.con ++ [(g, y)]⟩ := by
  have h1 := h.grow hb
  refine ⟨h1.map.kept hg (fun e => ?_), own_beside h1.out hg h1.apart.symm, ?_, (apart_grown h1.out h1.apart.symm hat).symm, h1.below.grown hg h1.below.size (fun k hk => ?_)⟩
  · have := own_base h1.con _ e.symm; omega
  · show w'.ownsRow _ _ _ _ (s.con ++ [(g, y)]).length (pairsP (s.con ++ [(g, y)]))
    rw [pairsP_snoc, List.length_append]
    exact ho
  · have := own_base h1.con _ hk; omega
theorem MS.del {w wr w' : World} {nm : Nat} {v9 v10 : Value} {s : StI Nat ByteArray} {x : ByteArray} (h : MS w wr nm v9 v10 s) (hm : FMap w' Tryd.prog 9 ptrR w.heap.size nm keyS ptrV (delF s.f x)) (hg : wr.grownBy w' (some w.heap.size)) :
    MS w w' nm v9 v10 ⟨delM s.f x, s.out, s.con⟩ := by
  have hk : ∀ {e : TypeId} {z n : Nat} {v : Value} {xs : List Value}, wr.ownsRow (w.heap.size + 1) e z v n xs → w'.ownsRow (w.heap.size + 1) e z v n xs := fun ho => by
    refine ho.kept hg ?_
    rcases hd : Value.ownBlock _ with _ | k
    · exact .inl rfl
    · exact .inr fun e => by injection e with e; have := own_base ho _ hd; omega
  exact ⟨hm, hk h.out, hk h.con, h.apart, h.below.grown hg h.below.size (fun k hk => by injection hk with hk; omega)⟩
theorem lit2 (w : World) (t : TypeId) (a b : Value) : Reads (w.alloc (.cells #[a, b] t)) (w.heap.size + 1) 2 (some ⟨w.heap.size, 0, none⟩) 1 [a, b] :=
  ⟨rfl, fun _ => (reads_lit w t [a, b]).2 (show 0 < 2 by omega)⟩
theorem lit1 (w : World) (t : TypeId) (a : Value) : Reads (w.alloc (.cells #[a] t)) (w.heap.size + 1) 1 (some ⟨w.heap.size, 0, none⟩) 1 [a] := reads_lit w t [a]
set_option maxRecDepth 100000 in
set_option maxHeartbeats 4000000 in
theorem merge_any (pth : Nat → ByteArray) (A1 A2 : Option Addr) (n1 n2 c1 c2 B1 B2 : Nat) (gs1 gs2 : List Nat) (w : World) (h1 : Reads w B1 1 A1 n1 (ptrs gs1)) (h2 : Reads w B2 1 A2 n2 (ptrs gs2)) (hB1 : B1 ≤ w.heap.size) (hB2 : B2 ≤ w.heap.size)
    (hp : ∀ g, g ∈ gs1 ∨ g ∈ gs2 → w.cell? ⟨g, 1, none⟩ = some (.string (pth g)) ∧ (pth g).size ≤ 1000) (hn1 : n1 ≤ 100000) (hn2 : n2 ≤ 100000) :
    Calls Tryd.prog 31 #[.slice A1 n1 c1, .slice A2 n2 c2] w fun e w' => ∃ v1 v2, e = .returned (.tuple #[v1, v2]) ∧ w'.ownsRow w.heap.size 69 1 v1 (implM pth gs1 gs2).1.length (ptrs (implM pth gs1 gs2).1) ∧ w'.ownsRow w.heap.size 81 2 v2 (implM pth gs1 gs2).2.length (pairsP (implM pth gs1 gs2).2) ∧ Below w.heap.size w w' := by
  obtain ⟨i1, hi1, hy0, hy1, hy2⟩ := info_parts infoPcc
  obtain ⟨i2, hi2, hz0, hz1, hz2⟩ := info_parts info2p
  have HN1 : Hid (gs1.length = n1) := by show _ = _; have := h1.1; rw [ptrs_length] at this; omega
  have HN2 : Hid (gs2.length = n2) := by show _ = _; have := h2.1; rw [ptrs_length] at this; omega
  have H1 := Lib.hid h1
  have H2 := Lib.hid h2
  have HP := Lib.hid hp
  clear h1 h2 hp
  have hmm := @run_makeMap Tryd.prog
  go_enter Tryd.func31, Tryd.ntmps31
  go_wp2
  go_loopw [22] (fun si wr => ∃ (j : Nat), j ≤ n2 ∧ si = .int .i64 j ∧ Hid (FMap wr Tryd.prog 9 ptrR w.heap.size j keyS ptrV ((gs2.take j).foldl (putM pth) (fun _ => none))) ∧ Hid (Below w.heap.size w wr)) (fun si _ => n2 - (intOf si).toNat)
  case atStart => exact ⟨0, Nat.zero_le _, rfl, FMap.made w _ _ _ _ _, below_one w _⟩
  case round =>
    obtain ⟨j, hj, rfl, HM, HW⟩ := hrel
    by_cases hlt : j < n2
    · obtain ⟨g, hg, htk⟩ : ∃ g, gs2[j]? = some g ∧ gs2.take (j + 1) = gs2.take j ++ [g] := ⟨_, List.getElem?_eq_getElem (by have := HN2.out; omega), List.take_succ_eq_append_getElem (by have := HN2.out; omega)⟩
      obtain ⟨b, o, rfl, hb, hc⟩ := H2.out.lit hlt
      have k0 : wr.cell? ⟨b, o + j, none⟩ = some (.pointer (some ⟨g, 0, none⟩)) := (HW.out.cell (p := ⟨b, o + j, none⟩) (by show b < _; omega)).trans (hc _ _ (ptrs_at _ _ _ hg))
      obtain ⟨hpg, hps⟩ := HP.out g (.inr (List.mem_of_getElem? hg))
      have hgl : g < w.heap.size := World.block_lt_of_cell? w _ hpg
      have k1 : wr.cell? ⟨g, 1, none⟩ = some (.string (pth g)) := (HW.out.cell (p := ⟨g, 1, none⟩) hgl).trans hpg
      have HK := Lib.hid (keyS_of (pth g) hps)
      have HST : Hid ((gs2.take (j + 1)).foldl (putM pth) (fun _ => none) = putF ((gs2.take j).foldl (putM pth) (fun _ => none)) (pth g) g) := by show _ = _; rw [htk, List.foldl_append]; rfl
      have g1 : (j : Int) < (n2 : Int) := by omega
      generalize (gs2.take j).foldl (putM pth) (fun _ => none) = F at *
      clear hg htk hc hpg
      go_wp2_with (first | (at_mapUpdate; refine wpList_fm_put _ rfl _ _ _ 123 rfl 9 69 lawS Tryd.underlying123 keyS_inj keyS_lit rfl HM.out (by unfold maxLen; omega) _ _ (pth g) g rfl rfl HK.out [] (ptrR_some g) ?_; intro w1 hm1 hg1; have HM1 := Lib.hid hm1; have HW1 := Lib.hid (HW.out.grown hg1 HW.out.size (fun k hk => by injection hk with hk; omega)); clear hm1 hg1) | fail)
      go_roundw
      case rel => exact ⟨j + 1, by omega, by go_num, by show FMap _ _ _ _ _ _ _ _ _; rw [HST.out]; exact HM1.out, HW1.out⟩
      case measure => simp [intOf]; omega
    · have g1 : ¬ (j : Int) < (n2 : Int) := by omega
      have HM0 : Hid (FMap wr Tryd.prog 9 ptrR w.heap.size n2 keyS ptrV (mapOf pth gs2)) := by show FMap _ _ _ _ _ _ _ _ _; have h := HM.out.mono hj; rw [List.take_of_length_le (by have := HN2.out; omega)] at h; exact h
      have HS0 : Hid (MS w wr n2 (.slice none 0 0) (.slice none 0 0) ⟨mapOf pth gs2, [], []⟩) := ⟨HM0.out, World.ownsRow_nil _ _ _ _, World.ownsRow_nil _ _ _ _, apart_nil _, HW.out⟩
      clear HM HM0 HW
      go_wp2
      go_loopw [9, 10, 35] (fun v9 v10 si wr => ∃ (j : Nat) (s : StI Nat ByteArray), j ≤ n1 ∧ si = .int .i64 j ∧ Hid (s = (gs1.take j).foldl (stepI pth) ⟨mapOf pth gs2, [], []⟩) ∧ s.out.length + s.con.length = j ∧ Hid (MS w wr n2 v9 v10 s)) (fun _ _ si _ => n1 - (intOf si).toNat)
      case atStart => exact ⟨0, _, Nat.zero_le _, rfl, rfl, rfl, HS0.out⟩
      case round =>
        obtain ⟨j, s, hj, rfl, HS, hsum, HM⟩ := hrel
        by_cases hlt : j < n1
        · obtain ⟨g, hg, htk⟩ : ∃ g, gs1[j]? = some g ∧ gs1.take (j + 1) = gs1.take j ++ [g] := ⟨_, List.getElem?_eq_getElem (by have := HN1.out; omega), List.take_succ_eq_append_getElem (by have := HN1.out; omega)⟩
          obtain ⟨b, o, rfl, hb, hc⟩ := H1.out.lit hlt
          have HW := Lib.hid HM.out.below
          have k0 : wr.cell? ⟨b, o + j, none⟩ = some (.pointer (some ⟨g, 0, none⟩)) := (HW.out.cell (p := ⟨b, o + j, none⟩) (by show b < _; omega)).trans (hc _ _ (ptrs_at _ _ _ hg))
          obtain ⟨hpg, hps⟩ := HP.out g (.inl (List.mem_of_getElem? hg))
          have hgl : g < w.heap.size := World.block_lt_of_cell? w _ hpg
          have k1 : wr.cell? ⟨g, 1, none⟩ = some (.string (pth g)) := (HW.out.cell (p := ⟨g, 1, none⟩) hgl).trans hpg
          have HPG := Lib.hid hpg
          have HK := Lib.hid (keyS_of (pth g) hps)
          have HST : Hid ((gs1.take (j + 1)).foldl (stepI pth) ⟨mapOf pth gs2, [], []⟩ = stepI pth s g) := by show _ = _; rw [htk, List.foldl_append, HS.out]; rfl
          have g1 : (j : Int) < (n1 : Int) := by omega
          clear hg htk hc hpg HS
          cases hf : s.f (pth g) with
          | none =>
            have HE : Hid (stepI pth s g = ⟨delM s.f (pth g), s.out ++ [g], s.con⟩) := by show _ = _; unfold stepI; rw [hf]
            have HF := Lib.hid hf
            clear hf
            have hsz := HM.out.size
            go_wp2_with (first
              | (at_lookup; refine wpList_fm_miss _ rfl _ _ 123 rfl 9 69 lawS Tryd.underlying123 (zeroP _) .nil [] rfl rfl HM.out.map _ (pth g) rfl HK.out HF.out ptrR_miss ?_)
              | (at_builtin; refine wpList_append_any _ rfl (.tmp 55) (.tmp 57) 66 rfl (w.heap.size + 1) 69 i1 _ 1 8 Tryd.underlying66 hi1 hy0 hy1 hy2 rfl (by decide) u9 s.out.length (ptrs s.out) rfl (HM.out.out.alloc _) (wr.heap.size + 1) (some ⟨wr.heap.size, 0, none⟩) 1 1 _ rfl (lit1 wr _ _) (by intro u hu; simp at hu; subst hu; rfl) (by unfold maxLen; omega) (by omega) (by simp; omega) ?_; rintro v3 w3 hown3 hg3 hat3 -; have HM3 := Lib.hid (HM.out.appOut (below_one wr _) hown3 hg3 (hat3.imp id fun h => ⟨_, h, by simp⟩)); have kk1 : w3.cell? ⟨g, 1, none⟩ = some (.string (pth g)) := (HM3.out.below.cell (p := ⟨g, 1, none⟩) hgl).trans HPG.out; clear hown3 hg3 hat3)
              | (at_delete; refine wpList_fm_del _ rfl _ _ 123 9 rfl 69 lawS Tryd.underlying123 keyS_inj rfl HM3.out.map _ (pth g) rfl HK.out ?_; intro w4 hm4 hg4; have HM4 := Lib.hid (HM3.out.del hm4 hg4); clear hm4 hg4)
              | fail)
            go_roundw
            case rel => exact ⟨j + 1, ⟨delM s.f (pth g), s.out ++ [g], s.con⟩, by omega, by go_num, by show _ = _; rw [HST.out, HE.out], by simp; omega, HM4.out⟩
            case measure => simp [intOf]; omega
          | some y =>
            have HE : Hid (stepI pth s g = ⟨delM s.f (pth g), s.out, s.con ++ [(g, y)]⟩) := by show _ = _; unfold stepI; rw [hf]
            have HF := Lib.hid hf
            clear hf
            have hsz := HM.out.size
            go_wp2_with (first
              | (at_lookup; refine wpList_fm_hit _ rfl _ _ 123 rfl 9 69 lawS Tryd.underlying123 (zeroP _) .nil [] rfl rfl HM.out.map _ (pth g) rfl HK.out y HF.out (.pointer (some ⟨y, 0, none⟩)) (ptrR_hit y) ?_)
              | (at_builtin; refine wpList_append_any _ rfl (.tmp 49) (.tmp 53) 77 rfl (w.heap.size + 1) 81 i2 _ 2 16 Tryd.underlying77 hi2 hz0 hz1 hz2 rfl (by decide) u10 s.con.length (pairsP s.con) rfl (HM.out.con.alloc _) (wr.heap.size + 1) (some ⟨wr.heap.size, 0, none⟩) 1 1 _ rfl (lit2 wr _ _ _) (by intro u hu; simp at hu; rcases hu with rfl | rfl <;> rfl) (by unfold maxLen; omega) (by omega) (by simp; omega) ?_; rintro v3 w3 hown3 hg3 hat3 -; have HM3 := Lib.hid (HM.out.appCon (below_one wr _) hown3 hg3 (hat3.imp id fun h => ⟨_, h, by simp⟩)); have kk1 : w3.cell? ⟨g, 1, none⟩ = some (.string (pth g)) := (HM3.out.below.cell (p := ⟨g, 1, none⟩) hgl).trans HPG.out; clear hown3 hg3 hat3)
              | (at_delete; refine wpList_fm_del _ rfl _ _ 123 9 rfl 69 lawS Tryd.underlying123 keyS_inj rfl HM3.out.map _ (pth g) rfl HK.out ?_; intro w4 hm4 hg4; have HM4 := Lib.hid (HM3.out.del hm4 hg4); clear hm4 hg4)
              | fail)
            go_roundw
            case rel => exact ⟨j + 1, ⟨delM s.f (pth g), s.out, s.con ++ [(g, y)]⟩, by omega, by go_num, by show _ = _; rw [HST.out, HE.out], by simp; omega, HM4.out⟩
            case measure => simp [intOf]; omega
        · have g1 : ¬ (j : Int) < (n1 : Int) := by omega
          have HFIN : Hid (s = gs1.foldl (stepI pth) ⟨mapOf pth gs2, [], []⟩) := by show _ = _; have h := HS.out; rw [List.take_of_length_le (by have := HN1.out; omega)] at h; exact h
          clear HS
          go_wp2
          go_loopw [9, 67] (fun v9 si wr => ∃ (j : Nat) (out : List Nat), j ≤ n2 ∧ si = .int .i64 j ∧ Hid (out = (gs2.take j).foldl (fun o y => if (s.f (pth y)).isSome then o ++ [y] else o) s.out) ∧ out.length ≤ n1 + j ∧ Hid (MS w wr n2 v9 u10 ⟨s.f, out, s.con⟩)) (fun _ si _ => n2 - (intOf si).toNat)
          case atStart => exact ⟨0, s.out, Nat.zero_le _, rfl, rfl, by omega, HM.out⟩
          case round =>
            obtain ⟨j2, out, hj2, rfl, HS, hsum2, HM2⟩ := hrel
            by_cases hlt2 : j2 < n2
            · obtain ⟨g, hg, htk⟩ : ∃ g, gs2[j2]? = some g ∧ gs2.take (j2 + 1) = gs2.take j2 ++ [g] := ⟨_, List.getElem?_eq_getElem (by have := HN2.out; omega), List.take_succ_eq_append_getElem (by have := HN2.out; omega)⟩
              obtain ⟨b, o, rfl, hb, hc⟩ := H2.out.lit hlt2
              have HW := Lib.hid HM2.out.below
              have k0 : wr.cell? ⟨b, o + j2, none⟩ = some (.pointer (some ⟨g, 0, none⟩)) := (HW.out.cell (p := ⟨b, o + j2, none⟩) (by show b < _; omega)).trans (hc _ _ (ptrs_at _ _ _ hg))
              obtain ⟨hpg, hps⟩ := HP.out g (.inr (List.mem_of_getElem? hg))
              have hgl : g < w.heap.size := World.block_lt_of_cell? w _ hpg
              have k1 : wr.cell? ⟨g, 1, none⟩ = some (.string (pth g)) := (HW.out.cell (p := ⟨g, 1, none⟩) hgl).trans hpg
              have HK := Lib.hid (keyS_of (pth g) hps)
              have HST : Hid ((gs2.take (j2 + 1)).foldl (fun o y => if (s.f (pth y)).isSome then o ++ [y] else o) s.out = if (s.f (pth g)).isSome then out ++ [g] else out) := by show _ = _; rw [htk, List.foldl_append, ← HS.out]; rfl
              have g1 : (j2 : Int) < (n2 : Int) := by omega
              clear hg htk hc hpg HS
              have hsz := HM2.out.size
              cases hf : s.f (pth g) with
              | none =>
                have HF := Lib.hid hf
                have HE : Hid ((if (s.f (pth g)).isSome then out ++ [g] else out) = out) := by show _ = _; rw [hf]; rfl
                clear hf
                go_wp2_with (first
                  | (at_lookup; refine wpList_fm_miss _ rfl _ _ 123 rfl 9 69 lawS Tryd.underlying123 (zeroP _) .nil [] rfl rfl HM2.out.map _ (pth g) rfl HK.out HF.out ptrR_miss ?_)
                  | fail)
                go_roundw
                case rel => exact ⟨j2 + 1, out, by omega, by go_num, by show _ = _; rw [HST.out, HE.out], by omega, HM2.out⟩
                case measure => simp [intOf]; omega
              | some y =>
                have HF := Lib.hid hf
                have HE : Hid ((if (s.f (pth g)).isSome then out ++ [g] else out) = out ++ [g]) := by show _ = _; rw [hf]; rfl
                clear hf
                go_wp2_with (first
                  | (at_lookup; refine wpList_fm_hit _ rfl _ _ 123 rfl 9 69 lawS Tryd.underlying123 (zeroP _) .nil [] rfl rfl HM2.out.map _ (pth g) rfl HK.out y HF.out (.pointer (some ⟨y, 0, none⟩)) (ptrR_hit y) ?_)
                  | (at_builtin; refine wpList_append_any _ rfl (.tmp 81) (.tmp 83) 66 rfl (w.heap.size + 1) 69 i1 _ 1 8 Tryd.underlying66 hi1 hy0 hy1 hy2 rfl (by decide) u9 out.length (ptrs out) rfl (HM2.out.out.alloc _) (wr.heap.size + 1) (some ⟨wr.heap.size, 0, none⟩) 1 1 _ rfl (lit1 wr _ _) (by intro u hu; simp at hu; subst hu; rfl) (by unfold maxLen; omega) (by omega) (by simp; omega) ?_; rintro v3 w3 hown3 hg3 hat3 -; have HM3 := Lib.hid (HM2.out.appOut (below_one wr _) hown3 hg3 (hat3.imp id fun h => ⟨_, h, by simp⟩)); clear hown3 hg3 hat3)
                  | fail)
                go_roundw
                case rel => exact ⟨j2 + 1, out ++ [g], by omega, by go_num, by show _ = _; rw [HST.out, HE.out], by simp; omega, HM3.out⟩
                case measure => simp [intOf]; omega
            · have g1 : ¬ (j2 : Int) < (n2 : Int) := by omega
              have HEND : Hid (implM pth gs1 gs2 = (out, s.con)) := by
                show _ = _
                have h := HS.out
                rw [List.take_of_length_le (by have := HN2.out; omega)] at h
                unfold implM
                rw [← HFIN.out, h]
              go_wp2
              go_ret2
              refine ⟨_, _, rfl, ?_, ?_, HM2.out.below⟩
              · rw [HEND.out]; exact own_more HM2.out.out (Nat.le_succ _)
              · rw [HEND.out]; exact own_more HM2.out.con (Nat.le_succ _)
end Go.Proofs.YtijbdinemjiepaaDoor
