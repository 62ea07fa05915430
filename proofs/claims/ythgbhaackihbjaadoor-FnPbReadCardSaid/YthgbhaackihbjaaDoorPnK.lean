/- The reference's test whether the fields of a message are ours: spec.PbOurs, for a link (numbers up to 3) and for a node (numbers up to 2). -/
import Derived.Deep.Cut
import Derived.Test.YthgbhaackihbjaaDoorPbTk
import Derived.Test.YthgbhaackihbjaaDoorPnP
namespace Go.Proofs.YthgbhaackihbjaaDoor
open Go.RowKit

theorem runOk_last {r : Nat} {l : List UInt8} {k : Nat} {c : UInt8} (hc : l[k]? = some c) (hs : c.toNat < 128) (h : runOk 0 (l.drop (k + 1)) = true) : runOk r (l.drop k) = true := by
  have hk : k < l.length := (List.getElem?_eq_some_iff.1 hc).1
  have he : l[k] = c := (List.getElem?_eq_some_iff.1 hc).2
  rw [List.drop_eq_getElem_cons hk, he, runOk, if_pos hs]
  exact h
theorem runOk_more {r : Nat} {l : List UInt8} {k : Nat} {c : UInt8} (hc : l[k]? = some c) (hs : ¬ c.toNat < 128) (h9 : r + 1 ≠ 9) (h : runOk (r + 1) (l.drop (k + 1)) = true) : runOk r (l.drop k) = true := by
  have hk : k < l.length := (List.getElem?_eq_some_iff.1 hc).1
  have he : l[k] = c := (List.getElem?_eq_some_iff.1 hc).2
  rw [List.drop_eq_getElem_cons hk, he, runOk, if_neg hs]
  simp [h9, h]
/-- What PbOurs tells where it says yes. -/
structure OuIs (P : List UInt8 → Prop) (w : World) (l : List UInt8) (e : Ending) (w' : World) : Prop where
  ret : ∃ v, e = .returned (.bool v) ∧ (v = true → runOk 0 l = true ∧ P l)
  drew : ∃ k, w' = w.drewN k
theorem OuIs.no {P : List UInt8 → Prop} {w w' : World} {l : List UInt8} (h : ∃ k, w' = w.drewN k) : OuIs P w l (.returned (.bool false)) w' := ⟨⟨false, rfl, fun h => by cases h⟩, h⟩
theorem OuIs.yes {P : List UInt8 → Prop} {w w' : World} {l : List UInt8} (h : ∃ k, w' = w.drewN k) (hr : runOk 0 l = true) (hk : P l) : OuIs P w l (.returned (.bool true)) w' := ⟨⟨true, rfl, fun _ => ⟨hr, hk⟩⟩, h⟩
theorem tail_slice {w : World} {B n c k : Nat} {b o : Nat} {l : List UInt8} (h : Reads w B 1 (some ⟨b, o, none⟩) n (u8s l)) (hk : k ≤ n) (hnc : n ≤ c) : ∃ A2, (if c = k then some ⟨b, o, none⟩ else some ⟨b, o + k, none⟩ : Option Addr) = A2 ∧ Reads w B 1 A2 (n - k) (u8s (l.drop k)) := ⟨_, rfl, cut_slice h hk hnc⟩
theorem key_oursL_any (key : Nat) : KeyL key ∨ key / 8 < 1 ∨ 3 < key / 8 ∨ (1 ≤ key / 8 ∧ key / 8 ≤ 3 ∧ key % 8 ≠ 0 ∧ key % 8 ≠ 2) := by
  unfold KeyL
  omega
theorem key_oursN_any (key : Nat) : KeyN key ∨ key / 8 < 1 ∨ 2 < key / 8 ∨ (1 ≤ key / 8 ∧ key / 8 ≤ 2 ∧ key % 8 ≠ 0 ∧ key % 8 ≠ 2) := by
  unfold KeyN
  omega
set_option maxRecDepth 100000 in
set_option maxHeartbeats 8000000 in
theorem oursL_any (A : Option Addr) (n c B : Nat) (l : List UInt8) (w : World) (hr : Reads w B 1 A n (u8s l)) (hnc : n ≤ c) (hn : c ≤ 9223372036854775807) :
    Calls Tryd.prog 5 #[.slice A n c, .int .u64 3] w (OuIs OursL w l) := by
  have hln : l.length = n := by have := hr.1; rw [u8s_length] at this; omega
  have HR := Lib.hid hr
  have HLN := Lib.hid hln
  clear hr hln
  go_enter Tryd.func5, Tryd.ntmps5
  go_wp2
  go_loopg [5, 17] n (fun k vr vk wr => wr = w ∧ ∃ r q : Nat, vr = .int .i64 r ∧ vk = .int .i64 q ∧ q ≤ n ∧ r ≤ 8 ∧ Hid (k + q = n) ∧ Hid (runOk r (l.drop q) = true → runOk 0 l = true))
  case atStart => exact ⟨rfl, 0, 0, rfl, rfl, Nat.zero_le _, by omega, rfl, fun h => by simpa using h⟩
  case round =>
    obtain ⟨rfl, r, q, rfl, rfl, hqn, hr8, HK, HI⟩ := hrel
    by_cases hq : q < n
    · have hql : q < l.length := by have := HLN.out; omega
      obtain ⟨b, o, rfl, hbB, hc⟩ := HR.out.lit hq
      have hcj := hc q _ (u8s_at _ _ hql)
      have hat : l[q]? = some l[q] := List.getElem?_eq_getElem hql
      have hb256 := UInt8.toNat_lt l[q]
      by_cases hs : (l[q]).toNat < 128
      · have HX := Lib.hid (fun h => HI.out (runOk_last (r := r) hat hs h))
        clear hat hc
        generalize (l[q]).toNat = m at *
        go_wp2
        go_roundg (gk - 1)
        case measure => have := HK.out; omega
        case rel => exact ⟨rfl, 0, q + 1, rfl, by go_num, by omega, by omega, by have := HK.out; show _ = _; omega, HX.out⟩
      · by_cases h9 : r = 8
        · subst h9
          clear hat hc
          generalize (l[q]).toNat = m at *
          go_wp2
          go_ret
          exact OuIs.no ⟨0, rfl⟩
        · have HX := Lib.hid (fun h => HI.out (runOk_more (r := r) hat hs (by omega) h))
          have h9' : ¬ ((r : Int) + 1 = 9) := by omega
          clear hat hc
          generalize (l[q]).toNat = m at *
          go_wp2
          go_roundg (gk - 1)
          case measure => have := HK.out; omega
          case rel => exact ⟨rfl, r + 1, q + 1, by go_num, by go_num, by omega, by omega, by have := HK.out; show _ = _; omega, HX.out⟩
    · have HRUN := Lib.hid (HI.out (by rw [List.drop_of_length_le (by have := HLN.out; omega)]; rfl))
      have hlt : ¬ (q : Int) < n := by omega
      clear HI
      go_wp2
      go_loopg [0] l.length (fun k v wx => (∃ j, wx = wr.drewN j) ∧ ∃ (i : Nat) (A2 : Option Addr) (nx c2 : Nat), v = .slice A2 nx c2 ∧ nx ≤ c2 ∧ c2 ≤ 9223372036854775807 ∧ Hid ((l.drop i).length = nx) ∧ Hid (Reads wr B 1 A2 nx (u8s (l.drop i))) ∧ Hid (nx ≤ k) ∧ Hid (OursL (l.drop i) → OursL l))
      case atStart => exact ⟨⟨0, rfl⟩, 0, A, n, c, rfl, hnc, hn, by rw [List.drop_zero]; exact HLN.out, by rw [List.drop_zero]; exact HR.out, by rw [HLN.out]; exact Nat.le_refl _, fun h => by simpa using h⟩
      case round =>
        obtain ⟨⟨j, rfl⟩, i, A2, nx, c2, rfl, hle, hc2, HL2, HR2, HK2, HI⟩ := hrel
        have hrun2 := Lib.hid (runOk_drop HRUN.out i)
        generalize hxs : l.drop i = xs at *
        have HXS := Lib.hid hxs
        clear hxs
        by_cases h0 : nx = 0
        · have hx : xs = [] := List.eq_nil_of_length_eq_zero (by rw [HL2.out]; exact h0)
          have HY := Lib.hid (OuIs.yes (w := wr) (w' := wr.drewN j) (l := l) ⟨j, rfl⟩ HRUN.out (HI.out (by rw [hx]; exact Ours.nil)))
          clear hx
          subst h0
          go_wp2
          go_ret
          exact HY.out
        · have hpos : 0 < nx := by omega
          have HF := Lib.hid (fun k => readUvarint_any A2 nx c2 B xs (wr.drewN k) (HR2.out.drewN k) hrun2.out)
          have HT := Lib.hid (fun k => pbTake_any A2 nx c2 B xs (wr.drewN k) (HR2.out.drewN k) hle hc2 hrun2.out)
          cases hv : vi xs with
          | none =>
            have HY := Lib.hid (OuIs.yes (w := wr) (w' := wr.drewN j) (l := l) ⟨j, rfl⟩ HRUN.out (HI.out (Ours.torn hv)))
            rw [viRes_none hv] at HF
            clear hv
            go_wp2_with (first | (go_at_call 14; refine (HF.out j).mono ?_; clear HF; rintro e w1 ⟨rfl, rfl⟩) | fail)
            go_ret
            exact HY.out
          | some p =>
            obtain ⟨key, k⟩ := p
            rw [viRes_some hv] at HF
            obtain ⟨s1, s2⟩ := vi_small hv hrun2.out
            obtain ⟨k1, k2⟩ := vi_len hv
            rw [HL2.out] at k2
            have e7 := low3 key (by omega)
            have ha : (key : Int) / 8 = ((key / 8 : Nat) : Int) := by omega
            have hN := Lib.hid (OuIs.no (P := OursL) (w := wr) (w' := wr.drewN j) (l := l) ⟨j, rfl⟩)
            rcases key_oursL_any key with hko | hb | hb | ⟨hb, hb2, hb3, hb4⟩
            · have HKO := Lib.hid hko
              have HVI := Lib.hid hv
              obtain ⟨b2, o2, rfl, -, -⟩ := HR2.out.lit hpos
              have c8 : bits .and .u64 8 7 = 0 := low3 8 (by omega)
              have c10 : bits .and .u64 10 7 = 2 := low3 10 (by omega)
              have c16 : bits .and .u64 16 7 = 0 := low3 16 (by omega)
              have c18 : bits .and .u64 18 7 = 2 := low3 18 (by omega)
              have c24 : bits .and .u64 24 7 = 0 := low3 24 (by omega)
              have c26 : bits .and .u64 26 7 = 2 := low3 26 (by omega)
              cases hp : pt xs with
              | none =>
                have HY := Lib.hid (fun j => OuIs.yes (w := wr) (w' := wr.drewN j) (l := l) ⟨j, rfl⟩ HRUN.out (HI.out (Ours.bad hv hko hp)))
                replace HT : Hid (∀ k, Calls Tryd.prog 15 #[.slice (some ⟨b2, o2, none⟩) nx c2] (wr.drewN k) fun e w' => e = .returned (.tuple #[.int .u64 0, .int .i64 0, .int .u64 0, .slice none 0 0, .int .i64 0]) ∧ ∃ j, w' = wr.drewN j) := fun k => (HT.out k).mono (by
                  rintro e w' ⟨⟨v, rfl, h | ⟨t, A3, c3, h, -⟩⟩, j3, rfl⟩
                  · exact ⟨by rw [h.2]; rfl, _, World.drewN_drewN _ _ _⟩
                  · rw [hp] at h; cases h)
                clear hv hp ha e7 s1 hN
                rcases hko with rfl | rfl | rfl | rfl | rfl | rfl
                all_goals
                  go_wp2_with (first | (go_at_call 14; refine (HF.out j).mono ?_; clear HF; rintro e w1 ⟨rfl, rfl⟩) | (go_at_call 15; refine (HT.out j).mono ?_; clear HT; rintro e w1 ⟨rfl, j3, rfl⟩) | fail)
                  go_ret
                  exact HY.out _
              | some t =>
                have hts := pt_size hp
                rw [HL2.out] at hts
                have HNX := Lib.hid (fun hval h => HI.out (Ours.step hv hko hp hval h))
                have hcs := tail_slice HR2.out hts.2 hle
                replace HT : Hid (∀ k, Calls Tryd.prog 15 #[.slice (some ⟨b2, o2, none⟩) nx c2] (wr.drewN k) fun e w' => (∃ A3 c3, e = .returned (.tuple #[.int .u64 (t.at_ : Nat), .int .i64 (t.kind : Nat), .int .u64 (t.num : Nat), .slice A3 t.val.length c3, .int .i64 (t.size : Nat)]) ∧ t.val.length ≤ c3 ∧ Reads wr B 1 A3 t.val.length (u8s t.val) ∧ c3 ≤ 9223372036854775807) ∧ ∃ j, w' = wr.drewN j) := fun k => (HT.out k).mono (by
                  rintro e w' ⟨⟨v, rfl, h | ⟨t', A3, c3, h, hv3, h5, h6, h7⟩⟩, j3, rfl⟩
                  · rw [hp] at h; cases h.1
                  · rw [hp] at h
                    obtain rfl := Option.some.inj h
                    exact ⟨⟨A3, c3, by rw [hv3], h5, h6, h7⟩, _, World.drewN_drewN _ _ _⟩)
                obtain ⟨A4, hA4, hr4⟩ := hcs
                have HR4 := Lib.hid hr4
                have HA4 := Lib.hid hA4
                have HXD : Hid (l.drop (i + t.size) = xs.drop t.size) := by show _ = _; rw [← HXS.out, List.drop_drop]
                clear hv hp ha e7 s1 hN hr4 hA4
                generalize t.size = sz at *
                generalize t.at_ = at_ at *
                generalize t.kind = kd at *
                generalize t.num = nm at *
                generalize t.val = tv at *
                obtain ⟨hs1, hs2⟩ := hts
                have hs0 : ((sz : Int) == 0) = false := by simp; omega
                by_cases hcz : c2 = sz
                · have hA := HA4.out
                  rw [if_pos hcz] at hA
                  subst hA
                  have hczT := eq_true hcz
                  clear hcz
                  rcases hko with rfl | rfl | rfl | rfl | rfl | rfl
                  all_goals
                    go_wp2_with (first | (go_at_call 14; refine (HF.out j).mono ?_; clear HF; rintro e w1 ⟨rfl, rfl⟩) | (go_at_call 15; refine (HT.out j).mono ?_; clear HT; rintro e w1 ⟨⟨A3, c3, rfl, h5, h6, h7⟩, j3, rfl⟩; have H5 := Lib.hid h5; have H6 := Lib.hid h6; have H7 := Lib.hid h7; clear h5 h6 h7) | fail)
                    go_roundg (gk - 1)
                    case measure => have := HK2.out; omega
                    case rel => exact ⟨⟨_, rfl⟩, i + sz, _, nx - sz, c2 - sz, rfl, by omega, by omega, by show _ = _; rw [HXD.out, List.length_drop, HL2.out], by rw [HXD.out]; exact HR4.out, by have := HK2.out; show _ ≤ _; omega, fun h => HNX.out (True.intro) (by rw [← HXD.out]; exact h)⟩
                · have hA := HA4.out
                  rw [if_neg hcz] at hA
                  subst hA
                  rcases hko with rfl | rfl | rfl | rfl | rfl | rfl
                  all_goals
                    go_wp2_with (first | (go_at_call 14; refine (HF.out j).mono ?_; clear HF; rintro e w1 ⟨rfl, rfl⟩) | (go_at_call 15; refine (HT.out j).mono ?_; clear HT; rintro e w1 ⟨⟨A3, c3, rfl, h5, h6, h7⟩, j3, rfl⟩; have H5 := Lib.hid h5; have H6 := Lib.hid h6; have H7 := Lib.hid h7; clear h5 h6 h7) | fail)
                    go_roundg (gk - 1)
                    case measure => have := HK2.out; omega
                    case rel => exact ⟨⟨_, rfl⟩, i + sz, _, nx - sz, c2 - sz, rfl, by omega, by omega, by show _ = _; rw [HXD.out, List.length_drop, HL2.out], by rw [HXD.out]; exact HR4.out, by have := HK2.out; show _ ≤ _; omega, fun h => HNX.out (True.intro) (by rw [← HXD.out]; exact h)⟩
            all_goals
              clear hv HT HI s1
              generalize key / 8 = a at *
              generalize key % 8 = q8 at *
              try (have q0 : ((q8 : Int) != 0) = true := by simpa using hb3)
              try (have q2 : ((q8 : Int) != 2) = true := by simp; omega)
              go_wp2_with (first | (go_at_call 14; refine (HF.out j).mono ?_; clear HF; rintro e w1 ⟨rfl, rfl⟩) | fail)
              go_ret
              exact hN.out
set_option maxRecDepth 100000 in
set_option maxHeartbeats 8000000 in
theorem oursN_any (A : Option Addr) (n c B : Nat) (l : List UInt8) (w : World) (hr : Reads w B 1 A n (u8s l)) (hnc : n ≤ c) (hn : c ≤ 9223372036854775807) :
    Calls Tryd.prog 5 #[.slice A n c, .int .u64 2] w (OuIs OursN w l) := by
  have hln : l.length = n := by have := hr.1; rw [u8s_length] at this; omega
  have HR := Lib.hid hr
  have HLN := Lib.hid hln
  clear hr hln
  go_enter Tryd.func5, Tryd.ntmps5
  go_wp2
  go_loopg [5, 17] n (fun k vr vk wr => wr = w ∧ ∃ r q : Nat, vr = .int .i64 r ∧ vk = .int .i64 q ∧ q ≤ n ∧ r ≤ 8 ∧ Hid (k + q = n) ∧ Hid (runOk r (l.drop q) = true → runOk 0 l = true))
  case atStart => exact ⟨rfl, 0, 0, rfl, rfl, Nat.zero_le _, by omega, rfl, fun h => by simpa using h⟩
  case round =>
    obtain ⟨rfl, r, q, rfl, rfl, hqn, hr8, HK, HI⟩ := hrel
    by_cases hq : q < n
    · have hql : q < l.length := by have := HLN.out; omega
      obtain ⟨b, o, rfl, hbB, hc⟩ := HR.out.lit hq
      have hcj := hc q _ (u8s_at _ _ hql)
      have hat : l[q]? = some l[q] := List.getElem?_eq_getElem hql
      have hb256 := UInt8.toNat_lt l[q]
      by_cases hs : (l[q]).toNat < 128
      · have HX := Lib.hid (fun h => HI.out (runOk_last (r := r) hat hs h))
        clear hat hc
        generalize (l[q]).toNat = m at *
        go_wp2
        go_roundg (gk - 1)
        case measure => have := HK.out; omega
        case rel => exact ⟨rfl, 0, q + 1, rfl, by go_num, by omega, by omega, by have := HK.out; show _ = _; omega, HX.out⟩
      · by_cases h9 : r = 8
        · subst h9
          clear hat hc
          generalize (l[q]).toNat = m at *
          go_wp2
          go_ret
          exact OuIs.no ⟨0, rfl⟩
        · have HX := Lib.hid (fun h => HI.out (runOk_more (r := r) hat hs (by omega) h))
          have h9' : ¬ ((r : Int) + 1 = 9) := by omega
          clear hat hc
          generalize (l[q]).toNat = m at *
          go_wp2
          go_roundg (gk - 1)
          case measure => have := HK.out; omega
          case rel => exact ⟨rfl, r + 1, q + 1, by go_num, by go_num, by omega, by omega, by have := HK.out; show _ = _; omega, HX.out⟩
    · have HRUN := Lib.hid (HI.out (by rw [List.drop_of_length_le (by have := HLN.out; omega)]; rfl))
      have hlt : ¬ (q : Int) < n := by omega
      clear HI
      go_wp2
      go_loopg [0] l.length (fun k v wx => (∃ j, wx = wr.drewN j) ∧ ∃ (i : Nat) (A2 : Option Addr) (nx c2 : Nat), v = .slice A2 nx c2 ∧ nx ≤ c2 ∧ c2 ≤ 9223372036854775807 ∧ Hid ((l.drop i).length = nx) ∧ Hid (Reads wr B 1 A2 nx (u8s (l.drop i))) ∧ Hid (nx ≤ k) ∧ Hid (OursN (l.drop i) → OursN l))
      case atStart => exact ⟨⟨0, rfl⟩, 0, A, n, c, rfl, hnc, hn, by rw [List.drop_zero]; exact HLN.out, by rw [List.drop_zero]; exact HR.out, by rw [HLN.out]; exact Nat.le_refl _, fun h => by simpa using h⟩
      case round =>
        obtain ⟨⟨j, rfl⟩, i, A2, nx, c2, rfl, hle, hc2, HL2, HR2, HK2, HI⟩ := hrel
        have hrun2 := Lib.hid (runOk_drop HRUN.out i)
        generalize hxs : l.drop i = xs at *
        have HXS := Lib.hid hxs
        clear hxs
        by_cases h0 : nx = 0
        · have hx : xs = [] := List.eq_nil_of_length_eq_zero (by rw [HL2.out]; exact h0)
          have HY := Lib.hid (OuIs.yes (w := wr) (w' := wr.drewN j) (l := l) ⟨j, rfl⟩ HRUN.out (HI.out (by rw [hx]; exact Ours.nil)))
          clear hx
          subst h0
          go_wp2
          go_ret
          exact HY.out
        · have hpos : 0 < nx := by omega
          have HF := Lib.hid (fun k => readUvarint_any A2 nx c2 B xs (wr.drewN k) (HR2.out.drewN k) hrun2.out)
          have HT := Lib.hid (fun k => pbTake_any A2 nx c2 B xs (wr.drewN k) (HR2.out.drewN k) hle hc2 hrun2.out)
          cases hv : vi xs with
          | none =>
            have HY := Lib.hid (OuIs.yes (w := wr) (w' := wr.drewN j) (l := l) ⟨j, rfl⟩ HRUN.out (HI.out (Ours.torn hv)))
            rw [viRes_none hv] at HF
            clear hv
            go_wp2_with (first | (go_at_call 14; refine (HF.out j).mono ?_; clear HF; rintro e w1 ⟨rfl, rfl⟩) | fail)
            go_ret
            exact HY.out
          | some p =>
            obtain ⟨key, k⟩ := p
            rw [viRes_some hv] at HF
            obtain ⟨s1, s2⟩ := vi_small hv hrun2.out
            obtain ⟨k1, k2⟩ := vi_len hv
            rw [HL2.out] at k2
            have e7 := low3 key (by omega)
            have ha : (key : Int) / 8 = ((key / 8 : Nat) : Int) := by omega
            have hN := Lib.hid (OuIs.no (P := OursN) (w := wr) (w' := wr.drewN j) (l := l) ⟨j, rfl⟩)
            rcases key_oursN_any key with hko | hb | hb | ⟨hb, hb2, hb3, hb4⟩
            · have HKO := Lib.hid hko
              have HVI := Lib.hid hv
              obtain ⟨b2, o2, rfl, -, -⟩ := HR2.out.lit hpos
              have c8 : bits .and .u64 8 7 = 0 := low3 8 (by omega)
              have c10 : bits .and .u64 10 7 = 2 := low3 10 (by omega)
              have c16 : bits .and .u64 16 7 = 0 := low3 16 (by omega)
              have c18 : bits .and .u64 18 7 = 2 := low3 18 (by omega)
              cases hp : pt xs with
              | none =>
                have HY := Lib.hid (fun j => OuIs.yes (w := wr) (w' := wr.drewN j) (l := l) ⟨j, rfl⟩ HRUN.out (HI.out (Ours.bad hv hko hp)))
                replace HT : Hid (∀ k, Calls Tryd.prog 15 #[.slice (some ⟨b2, o2, none⟩) nx c2] (wr.drewN k) fun e w' => e = .returned (.tuple #[.int .u64 0, .int .i64 0, .int .u64 0, .slice none 0 0, .int .i64 0]) ∧ ∃ j, w' = wr.drewN j) := fun k => (HT.out k).mono (by
                  rintro e w' ⟨⟨v, rfl, h | ⟨t, A3, c3, h, -⟩⟩, j3, rfl⟩
                  · exact ⟨by rw [h.2]; rfl, _, World.drewN_drewN _ _ _⟩
                  · rw [hp] at h; cases h)
                clear hv hp ha e7 s1 hN
                rcases hko with rfl | rfl | rfl | rfl
                all_goals
                  go_wp2_with (first | (go_at_call 14; refine (HF.out j).mono ?_; clear HF; rintro e w1 ⟨rfl, rfl⟩) | (go_at_call 15; refine (HT.out j).mono ?_; clear HT; rintro e w1 ⟨rfl, j3, rfl⟩) | fail)
                  go_ret
                  exact HY.out _
              | some t =>
                have hts := pt_size hp
                rw [HL2.out] at hts
                have HNX := Lib.hid (fun hval h => HI.out (Ours.step hv hko hp hval h))
                have hcs := tail_slice HR2.out hts.2 hle
                replace HT : Hid (∀ k, Calls Tryd.prog 15 #[.slice (some ⟨b2, o2, none⟩) nx c2] (wr.drewN k) fun e w' => (∃ A3 c3, e = .returned (.tuple #[.int .u64 (t.at_ : Nat), .int .i64 (t.kind : Nat), .int .u64 (t.num : Nat), .slice A3 t.val.length c3, .int .i64 (t.size : Nat)]) ∧ t.val.length ≤ c3 ∧ Reads wr B 1 A3 t.val.length (u8s t.val) ∧ c3 ≤ 9223372036854775807) ∧ ∃ j, w' = wr.drewN j) := fun k => (HT.out k).mono (by
                  rintro e w' ⟨⟨v, rfl, h | ⟨t', A3, c3, h, hv3, h5, h6, h7⟩⟩, j3, rfl⟩
                  · rw [hp] at h; cases h.1
                  · rw [hp] at h
                    obtain rfl := Option.some.inj h
                    exact ⟨⟨A3, c3, by rw [hv3], h5, h6, h7⟩, _, World.drewN_drewN _ _ _⟩)
                obtain ⟨A4, hA4, hr4⟩ := hcs
                have HR4 := Lib.hid hr4
                have HA4 := Lib.hid hA4
                have HXD : Hid (l.drop (i + t.size) = xs.drop t.size) := by show _ = _; rw [← HXS.out, List.drop_drop]
                clear hv hp ha e7 s1 hN hr4 hA4
                generalize t.size = sz at *
                generalize t.at_ = at_ at *
                generalize t.kind = kd at *
                generalize t.num = nm at *
                generalize t.val = tv at *
                obtain ⟨hs1, hs2⟩ := hts
                have hs0 : ((sz : Int) == 0) = false := by simp; omega
                by_cases hcz : c2 = sz
                · have hA := HA4.out
                  rw [if_pos hcz] at hA
                  subst hA
                  have hczT := eq_true hcz
                  clear hcz
                  rcases hko with rfl | rfl | rfl | rfl
                  rotate_left
                  rotate_left
                  rotate_left
                  · go_wp2_with (first | (go_at_call 14; refine (HF.out j).mono ?_; clear HF; rintro e w1 ⟨rfl, rfl⟩) | (go_at_call 15; refine (HT.out j).mono ?_; clear HT; rintro e w1 ⟨⟨A3, c3, rfl, h5, h6, h7⟩, j3, rfl⟩; have H5 := Lib.hid h5; have H6 := Lib.hid h6; have H7 := Lib.hid h7; clear h5 h6 h7) | (go_at_call 5; refine (oursL_any _ _ _ B tv _ (H6.out.drewN j3) H5.out H7.out).mono ?_; rintro e w2 ⟨⟨v, rfl, hv2⟩, j4, rfl⟩; have HV2 := Lib.hid hv2; clear hv2; cases v) | fail)
                    · go_ret
                      exact OuIs.no ⟨_, rfl⟩
                    · have HPV := Lib.hid (HV2.out (by simp)).2
                      clear HV2
                      go_roundg (gk - 1)
                      case measure => have := HK2.out; omega
                      case rel => exact ⟨⟨_, rfl⟩, i + sz, _, nx - sz, c2 - sz, rfl, by omega, by omega, by show _ = _; rw [HXD.out, List.length_drop, HL2.out], by rw [HXD.out]; exact HR4.out, by have := HK2.out; show _ ≤ _; omega, fun h => HNX.out (fun _ => HPV.out) (by rw [← HXD.out]; exact h)⟩
                  all_goals
                    go_wp2_with (first | (go_at_call 14; refine (HF.out j).mono ?_; clear HF; rintro e w1 ⟨rfl, rfl⟩) | (go_at_call 15; refine (HT.out j).mono ?_; clear HT; rintro e w1 ⟨⟨A3, c3, rfl, h5, h6, h7⟩, j3, rfl⟩; have H5 := Lib.hid h5; have H6 := Lib.hid h6; have H7 := Lib.hid h7; clear h5 h6 h7) | fail)
                    go_roundg (gk - 1)
                    case measure => have := HK2.out; omega
                    case rel => exact ⟨⟨_, rfl⟩, i + sz, _, nx - sz, c2 - sz, rfl, by omega, by omega, by show _ = _; rw [HXD.out, List.length_drop, HL2.out], by rw [HXD.out]; exact HR4.out, by have := HK2.out; show _ ≤ _; omega, fun h => HNX.out (fun e => absurd e (by decide)) (by rw [← HXD.out]; exact h)⟩
                · have hA := HA4.out
                  rw [if_neg hcz] at hA
                  subst hA
                  rcases hko with rfl | rfl | rfl | rfl
                  rotate_left
                  rotate_left
                  rotate_left
                  · go_wp2_with (first | (go_at_call 14; refine (HF.out j).mono ?_; clear HF; rintro e w1 ⟨rfl, rfl⟩) | (go_at_call 15; refine (HT.out j).mono ?_; clear HT; rintro e w1 ⟨⟨A3, c3, rfl, h5, h6, h7⟩, j3, rfl⟩; have H5 := Lib.hid h5; have H6 := Lib.hid h6; have H7 := Lib.hid h7; clear h5 h6 h7) | (go_at_call 5; refine (oursL_any _ _ _ B tv _ (H6.out.drewN j3) H5.out H7.out).mono ?_; rintro e w2 ⟨⟨v, rfl, hv2⟩, j4, rfl⟩; have HV2 := Lib.hid hv2; clear hv2; cases v) | fail)
                    · go_ret
                      exact OuIs.no ⟨_, rfl⟩
                    · have HPV := Lib.hid (HV2.out (by simp)).2
                      clear HV2
                      go_roundg (gk - 1)
                      case measure => have := HK2.out; omega
                      case rel => exact ⟨⟨_, rfl⟩, i + sz, _, nx - sz, c2 - sz, rfl, by omega, by omega, by show _ = _; rw [HXD.out, List.length_drop, HL2.out], by rw [HXD.out]; exact HR4.out, by have := HK2.out; show _ ≤ _; omega, fun h => HNX.out (fun _ => HPV.out) (by rw [← HXD.out]; exact h)⟩
                  all_goals
                    go_wp2_with (first | (go_at_call 14; refine (HF.out j).mono ?_; clear HF; rintro e w1 ⟨rfl, rfl⟩) | (go_at_call 15; refine (HT.out j).mono ?_; clear HT; rintro e w1 ⟨⟨A3, c3, rfl, h5, h6, h7⟩, j3, rfl⟩; have H5 := Lib.hid h5; have H6 := Lib.hid h6; have H7 := Lib.hid h7; clear h5 h6 h7) | fail)
                    go_roundg (gk - 1)
                    case measure => have := HK2.out; omega
                    case rel => exact ⟨⟨_, rfl⟩, i + sz, _, nx - sz, c2 - sz, rfl, by omega, by omega, by show _ = _; rw [HXD.out, List.length_drop, HL2.out], by rw [HXD.out]; exact HR4.out, by have := HK2.out; show _ ≤ _; omega, fun h => HNX.out (fun e => absurd e (by decide)) (by rw [← HXD.out]; exact h)⟩
            all_goals
              clear hv HT HI s1
              generalize key / 8 = a at *
              generalize key % 8 = q8 at *
              try (have q0 : ((q8 : Int) != 0) = true := by simpa using hb3)
              try (have q2 : ((q8 : Int) != 2) = true := by simp; omega)
              go_wp2_with (first | (go_at_call 14; refine (HF.out j).mono ?_; clear HF; rintro e w1 ⟨rfl, rfl⟩) | fail)
              go_ret
              exact hN.out
end Go.Proofs.YthgbhaackihbjaaDoor
