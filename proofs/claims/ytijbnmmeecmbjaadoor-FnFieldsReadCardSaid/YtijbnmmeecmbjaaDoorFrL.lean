/- The law FnFieldsRead: whatever the bytes, the call returns true. -/
import Derived.Deep.RegionHeld3
import Derived.Test.YtijbnmmeecmbjaaDoorFlSz
import Derived.Test.YtijbnmmeecmbjaaDoorFrT
namespace Go.Proofs.YtijbnmmeecmbjaaDoor
open Go.RowKit

theorem pk_len {f : Nat} {xs : List UInt8} {d : List Nat} (h : pk f xs = some d) : d.length ≤ xs.length := by
  induction f generalizing xs d with
  | zero =>
    obtain rfl := Option.some.inj h
    simp
  | succ f ih =>
    by_cases hne : xs = []
    · subst hne
      rw [pk_nil] at h
      obtain rfl := Option.some.inj h
      simp
    · cases hv : vi xs with
      | none => simp [pk, hne, hv] at h
      | some p =>
        obtain ⟨v, k⟩ := p
        have hk := vi_len hv
        cases hp : pk f (xs.drop k) with
        | none => simp [pk, hne, hv, hp] at h
        | some d2 =>
          have e : v :: d2 = d := by simpa [pk, hne, hv, hp] using h
          have := ih hp
          rw [List.length_drop] at this
          subst e
          simp
          omega
theorem zero_wrap : wrap64 0 = 0 := by
  unfold wrap64
  omega
theorem up_fits {st s2 : FSt} {t : Fld} (h : up st t = some s2) (hv : t.val.length ≤ t.size) (hz : 2 ≤ t.size) : s2.sizes.length ≤ st.sizes.length + t.size := by
  unfold up at h
  split at h
  · obtain rfl := Option.some.inj h; exact Nat.le_add_right _ _
  · split at h
    · obtain rfl := Option.some.inj h; exact Nat.le_add_right _ _
    · split at h
      · obtain rfl := Option.some.inj h; exact Nat.le_add_right _ _
      · split at h
        · split at h
          · obtain rfl := Option.some.inj h
            show (st.sizes ++ [t.num]).length ≤ _
            rw [List.length_append]
            exact Nat.add_le_add_left (Nat.le_trans (show 1 ≤ 2 by decide) hz) _
          · cases hk : pk t.val.length t.val with
            | none => rw [hk] at h; cases h
            | some d =>
              rw [hk] at h
              obtain rfl := Option.some.inj h
              show (st.sizes ++ d).length ≤ _
              rw [List.length_append]
              exact Nat.add_le_add_left (Nat.le_trans (pk_len hk) hv) _
        · split at h
          · obtain rfl := Option.some.inj h; exact Nat.le_add_right _ _
          · split at h
            · obtain rfl := Option.some.inj h; exact Nat.le_add_right _ _
            · obtain rfl := Option.some.inj h; exact Nat.le_add_right _ _
theorem up_type {st s2 : FSt} {t : Fld} (h : up st t = some s2) : s2.ty = st.ty ∨ s2.ty = some (i32w t.num) := by
  unfold up at h
  split at h
  · obtain rfl := Option.some.inj h; exact .inr rfl
  · split at h
    · obtain rfl := Option.some.inj h; exact .inl rfl
    · split at h
      · obtain rfl := Option.some.inj h; exact .inl rfl
      · split at h
        · split at h
          · obtain rfl := Option.some.inj h; exact .inl rfl
          · cases hk : pk t.val.length t.val with
            | none => rw [hk] at h; cases h
            | some d =>
              rw [hk] at h
              obtain rfl := Option.some.inj h
              exact .inl rfl
        · split at h
          · obtain rfl := Option.some.inj h; exact .inl rfl
          · split at h
            · obtain rfl := Option.some.inj h; exact .inl rfl
            · obtain rfl := Option.some.inj h; exact .inl rfl
theorem fit_step {a b c x n : Nat} (h1 : a ≤ b + x) (h2 : b + n ≤ c) (h3 : x ≤ n) : a + (n - x) ≤ c := by omega
theorem ms_sizes {N f : Nat} {st st' : FSt} {xs : List UInt8} (h : ms f st xs = some st') (hl : st.sizes.length + xs.length ≤ N) : st'.sizes.length ≤ N := by
  induction f generalizing st xs with
  | zero =>
    obtain rfl := Option.some.inj h
    exact Nat.le_trans (Nat.le_add_right _ _) hl
  | succ f ih =>
    by_cases hne : xs = []
    · subst hne
      rw [ms_nil] at h
      obtain rfl := Option.some.inj h
      exact Nat.le_trans (Nat.le_add_right _ _) hl
    · cases hp : pt xs with
      | none => simp [ms, hne, hp] at h
      | some t =>
        cases hu : up st t with
        | none => simp [ms, hne, hp, hu] at h
        | some s2 =>
          have h2 : ms f s2 (xs.drop t.size) = some st' := by simpa [ms, hne, hp, hu] using h
          have hz := pt_size hp
          refine ih h2 ?_
          rw [List.length_drop]
          exact fit_step (up_fits hu (pt_more hp).2 hz.1) hl hz.2
theorem ms_type {f : Nat} {st st' : FSt} {xs : List UInt8} (h : ms f st xs = some st') (hl : st.ty = none ∨ ∃ n : Nat, st.ty = some (i32w n)) : st'.ty = none ∨ ∃ n : Nat, st'.ty = some (i32w n) := by
  induction f generalizing st xs with
  | zero =>
    obtain rfl := Option.some.inj h
    exact hl
  | succ f ih =>
    by_cases hne : xs = []
    · subst hne
      rw [ms_nil] at h
      obtain rfl := Option.some.inj h
      exact hl
    · cases hp : pt xs with
      | none => simp [ms, hne, hp] at h
      | some t =>
        cases hu : up st t with
        | none => simp [ms, hne, hp, hu] at h
        | some s2 =>
          have h2 : ms f s2 (xs.drop t.size) = some st' := by simpa [ms, hne, hp, hu] using h
          refine ih h2 ?_
          rcases up_type hu with e | e
          · rw [e]; exact hl
          · exact .inr ⟨_, e⟩
theorem whole_fits {l : List UInt8} {st : FSt} (h : whole (ms l.length FSt.zero l) = some st) : st.sizes.length ≤ l.length ∧ wrap64 (st.ty.getD 0) = st.ty.getD 0 := by
  cases e : ms l.length FSt.zero l with
  | none => rw [e] at h; cases h
  | some s =>
    rw [e] at h
    have hs : st = s := by
      simp only [whole, Option.bind_some] at h
      split at h
      · exact (Option.some.inj h).symm
      · cases h
    subst hs
    refine ⟨ms_sizes e (show 0 + l.length ≤ _ from Nat.le_of_eq (Nat.zero_add _)), ?_⟩
    rcases ms_type e (.inl rfl) with e2 | ⟨k, e2⟩
    · rw [e2, Option.getD_none]; exact zero_wrap
    · rw [e2, Option.getD_some]; exact wrap64_i32w k
/-- The law's two structs, at the blocks p and p', and what they point to. -/
structure TwoFS (w0 w : World) (p p' : Nat) (C C' : Array Value) (B : Nat) (A1 A2 A1' A2' : Option Addr) (dl sl : Nat) (sd ss : List Value) : Prop where
  a : Blk w p 32 C
  b : Blk w p' 32 C'
  below : Below w0.heap.size w0 w
  r1 : Reads w B 1 A1 dl sd
  r2 : Reads w B 1 A2 sl ss
  r3 : Reads w B 1 A1' dl sd
  r4 : Reads w B 1 A2' sl ss
  hB : B ≤ w.heap.size
section
variable {w0 w w' : World} {p p' : Nat} {C C' : Array Value} {B : Nat} {A1 A2 A1' A2' : Option Addr} {dl sl : Nat} {sd ss : List Value}
theorem TwoFS.next (h : TwoFS w0 w p p' C C' B A1 A2 A1' A2' dl sl sd ss) (hb : Below w.heap.size w w') : TwoFS w0 w' p p' C C' B A1 A2 A1' A2' dl sl sd ss :=
  ⟨h.a.below hb h.a.lt, h.b.below hb h.b.lt, below_then h.below h.below.size hb, h.r1.below (hb.mono h.hB), h.r2.below (hb.mono h.hB), h.r3.below (hb.mono h.hB), h.r4.below (hb.mono h.hB), Nat.le_trans h.hB hb.size⟩
theorem TwoFS.drew (h : TwoFS w0 w p p' C C' B A1 A2 A1' A2' dl sl sd ss) : TwoFS w0 w.drew p p' C C' B A1 A2 A1' A2' dl sl sd ss := h.next (below_drewN (Below.refl _ w) 1)
theorem TwoFS.start {w2 w4 : World} (h2 : Below w0.heap.size w0 w2) (h4 : Below (w2.alloc (.cells C 32)).heap.size (w2.alloc (.cells C 32)) w4) (r1 : Reads w2 w2.heap.size 1 A1 dl sd) (r2 : Reads w2 w2.heap.size 1 A2 sl ss) (r3 : Reads w4 w4.heap.size 1 A1' dl sd) (r4 : Reads w4 w4.heap.size 1 A2' sl ss) : TwoFS w0 (w4.alloc (.cells C' 32)) w2.heap.size w4.heap.size C C' w4.heap.size A1 A2 A1' A2' dl sl sd ss := by
  have hb : Below w2.heap.size w2 w4 := (below_one w2 _).trans (h4.mono (by simp))
  exact ⟨((Blk.new w2 32 C).below h4 (by simp)).alloc _, Blk.new w4 32 C', below_alloc (below_then (below_alloc h2 _) (below_alloc h2 _).size h4) _, ((r1.below hb).more hb.size).alloc (Nat.le_refl _) _, ((r2.below hb).more hb.size).alloc (Nat.le_refl _) _, r3.alloc (Nat.le_refl _) _, r4.alloc (Nat.le_refl _) _, by simp⟩
end
set_option maxRecDepth 100000 in
set_option maxHeartbeats 8000000 in
theorem fieldsRead_any (A : Option Addr) (n c B : Nat) (l : List UInt8) (w : World) (a0 a1 a2 a3 : Addr) (hr : Reads w B 1 A n (u8s l)) (hB : B ≤ w.heap.size) (hnc : n ≤ c) (hc : c ≤ 9223372036854775807) (he : ErrsF w a0 a1 a2 a3) :
    Calls Tryd.prog 5 #[.slice A n c] w (Yes w) := by
  have HE := Lib.hid he
  have HR := Lib.hid hr
  have HAW : Hid (∀ W, Below w.heap.size w W → Calls Tryd.prog 7 #[] W (Yes W)) := fun W hb => folderAwake_any a0 a1 a2 a3 W (he.below hb he.lt)
  have HKN := Lib.hid (known_any A n c B l w hr hnc hc)
  clear he hr
  by_cases hbig : 2147483647 < n
  · go_enter Tryd.func5, Tryd.ntmps5
    go_wp2
    go_ret
    exact ⟨rfl, Below.refl _ _⟩
  by_cases hlong : 2000 < n
  · go_enter Tryd.func5, Tryd.ntmps5
    go_wp2_with (first | (go_at_call 7; refine (HAW.out _ (Below.refl _ _)).mono ?_; rintro e w1 ⟨rfl, hb1⟩; have HB1 := Lib.hid hb1; clear hb1) | fail)
    go_ret
    exact ⟨rfl, HB1.out⟩
  have hdl0 : decide ((2000 : Int) < (n : Int)) = false := decide_eq_false (by omega)
  go_enter Tryd.func5, Tryd.ntmps5
  go_upto_if 17 with (first | (go_at_call 6; refine HKN.out.mono ?_; clear HKN; rintro e w1 ⟨⟨v, rfl, hv⟩, k, rfl⟩; have HV := Lib.hid hv; clear hv) | fail)
  have HB0 := Lib.hid (below_drewN (Below.refl w.heap.size w) k)
  cases v with
  | false =>
    go_wp2_with (first | (go_at_call 7; refine (HAW.out _ HB0.out).mono ?_; rintro e w1 ⟨rfl, hb1⟩; have HB1 := Lib.hid hb1; clear hb1) | fail)
    go_ret
    exact ⟨rfl, HB0.out.trans HB1.out⟩
  | true =>
    obtain ⟨hrun, hkn⟩ := HV.out rfl
    have hask : Ask0 (w.drewN k) A n B l a0 a1 a2 a3 := ⟨HR.out.drewN k, hB, by omega, hrun, hkn, HE.out.below HB0.out HE.out.lt⟩
    have HASK := Lib.hid hask
    have hln := hask.len
    have HMS := Lib.hid (fun W (hb : Below (w.drewN k).heap.size (w.drewN k) W) => message_any A n c B l W (hask.below hb).rd (hask.below hb).lt hnc hc (by omega) hrun hkn)
    have HW2 : Hid (∀ W, Below (w.drewN k).heap.size (w.drewN k) W → Below w.heap.size w W) := fun W hb => HB0.out.trans (hb.mono (Nat.le_refl _))
    clear hask HV hkn hrun
    cases hw : whole (ms l.length FSt.zero l) with
    | none =>
      have HF : Hid (∀ W, Below (w.drewN k).heap.size (w.drewN k) W → Calls Tryd.prog 24 #[.slice A n c] W fun e w' => Below W.heap.size W w' ∧ e = .returned (.tuple #[.agg #[.int .i64 0, .slice none 0 0, .int .u64 0, .slice none 0 0, .int .u64 0, .int .u64 0], .bool false])) := fun W hb => fsof_bad (c := c) (HASK.out.below hb) hw
      have HM : Hid (∀ W, Below (w.drewN k).heap.size (w.drewN k) W → Calls Tryd.prog 10 #[.slice A n c] W fun e w' => Below W.heap.size W w' ∧ e = .returned (.tuple #[.agg #[.int .i64 0, .slice none 0 0, .int .u64 0, .slice none 0 0, .int .u64 0, .int .u64 0], .bool false])) := fun W hb => (HMS.out W hb).mono fun e w' h => h.bad hw
      clear HMS hw HASK
      generalize w.drewN k = w0 at *
      go_wp2_with (first | (go_at_call 24; refine (HF.out _ (Below.refl _ _)).mono ?_; clear HF; rintro e w2 ⟨hb2, rfl⟩; have HB2 := Lib.hid hb2; clear hb2) | (go_at_call 10; refine (HM.out _ (below_alloc HB2.out _)).mono ?_; clear HM; rintro e w4 ⟨hb4, rfl⟩; have HB4 := Lib.hid (below_then (below_alloc HB2.out _) (below_alloc HB2.out _).size hb4); clear hb4) | (go_at_call 7; refine (HAW.out _ (HW2.out _ (below_alloc HB4.out _))).mono ?_; rintro e w5 ⟨rfl, hb5⟩; have HB5 := Lib.hid (below_then (below_alloc HB4.out _) (below_alloc HB4.out _).size hb5); clear hb5) | fail)
      go_ret
      exact ⟨rfl, HW2.out _ HB5.out⟩
    | some st =>
      obtain ⟨hf1, hf2⟩ := whole_fits hw
      have hd1 : st.data.length ≤ 1000000 := whole_data hw (by omega)
      have hs1 : st.sizes.length ≤ 1000000 := Nat.le_trans hf1 (by omega)
      have HF : Hid (∀ W, Below (w.drewN k).heap.size (w.drewN k) W → Calls Tryd.prog 24 #[.slice A n c] W fun e w' => Below W.heap.size W w' ∧ ∃ A c A2 c2, e = .returned (.tuple #[.agg #[.int .i64 (st.ty.getD 0), .slice A st.data.length c, .int .u64 ((toldSize st : Nat) : Int), .slice A2 st.sizes.length c2, .int .u64 (st.hash : Int), .int .u64 (st.fan : Int)], .bool true]) ∧ Reads w' w'.heap.size 1 A st.data.length (u8s st.data) ∧ Reads w' w'.heap.size 1 A2 st.sizes.length (u64s st.sizes)) := fun W hb => fsof_good (c := c) (HASK.out.below hb) hw hd1 hs1 hf2
      have HM : Hid (∀ W, Below (w.drewN k).heap.size (w.drewN k) W → Calls Tryd.prog 10 #[.slice A n c] W fun e w' => Below W.heap.size W w' ∧ ∃ A c A2 c2, e = .returned (.tuple #[.agg #[.int .i64 (st.ty.getD 0), .slice A st.data.length c, .int .u64 (st.fsize : Int), .slice A2 st.sizes.length c2, .int .u64 (st.hash : Int), .int .u64 (st.fan : Int)], .bool true]) ∧ Reads w' w'.heap.size 1 A st.data.length (u8s st.data) ∧ Reads w' w'.heap.size 1 A2 st.sizes.length (u64s st.sizes)) := fun W hb => (HMS.out W hb).mono fun e w' h => by
        obtain ⟨h1, A, c, A2, c2, h2, h3, h4⟩ := h.good hw
        exact ⟨h1, A, c, A2, c2, h2, h3, .of_own h4⟩
      have HTO := Lib.hid (fun A c A2 c2 W => told_any (st.ty.getD 0) A st.data.length c st.fsize st.hash st.fan A2 st.sizes.length c2 W hd1)
      have HSF := Lib.hid (fun (A A' A2 A2' : Option Addr) (c c' c2 c2' B : Nat) (W : World) h1 h2 h3 h4 hB => sameFS_any (st.ty.getD 0) (toldSize st) st.hash st.fan A A' A2 A2' c c' c2 c2' B st.data st.sizes W h1 h2 h3 h4 hB hs1)
      rw [show (szOf (st.ty.getD 0) st.fsize st.data.length).getD 0 = toldSize st from rfl] at HTO
      clear hd1 hs1 hf1 hf2 hw HMS HASK
      generalize w.drewN k = w0 at *
      generalize st.ty.getD 0 = ty at *
      generalize st.fsize = fs at *
      generalize st.hash = hh at *
      generalize st.fan = ff at *
      generalize toldSize st = ts at *
      generalize hsd : u8s st.data = sd at *
      generalize hss : u64s st.sizes = ss at *
      generalize st.data.length = dl at *
      generalize st.sizes.length = sl at *
      clear hsd hss
      go_upto_region 9 with (first | (go_at_call 24; refine (HF.out _ (Below.refl _ _)).mono ?_; clear HF; rintro e w2 ⟨hb2, A2, c2, B2, e2, rfl, hr2, hs2⟩; have HB2 := Lib.hid hb2; have HR2 := Lib.hid hr2; have HS2 := Lib.hid hs2; clear hb2 hr2 hs2) | (go_at_call 10; refine (HM.out _ (below_alloc HB2.out _)).mono ?_; clear HM; rintro e w4 ⟨hb4, A4, c4, B4, e4, rfl, hr4, hs4⟩; have HB4 := Lib.hid hb4; have HR4 := Lib.hid hr4; have HS4 := Lib.hid hs4; clear hb4 hr4 hs4) | fail)
      have HT := Lib.hid (TwoFS.start (C' := #[.int .i64 ty, .slice A4 dl c4, .int .u64 (fs : Int), .slice B4 sl e4, .int .u64 (hh : Int), .int .u64 (ff : Int)]) HB2.out HB4.out HR2.out HS2.out HR4.out HS4.out)
      clear HB2 HB4 HR2 HS2 HR4 HS4
      obtain ⟨W1, hW1⟩ : ∃ W1, w4.alloc (.cells #[.int .i64 ty, .slice A4 dl c4, .int .u64 (fs : Int), .slice B4 sl e4, .int .u64 (hh : Int), .int .u64 (ff : Int)] 32) = W1 := ⟨_, rfl⟩
      rw [hW1] at HT ⊢
      clear hW1
      generalize w2.heap.size = p2 at *
      generalize w4.heap.size = p4 at *
      have k0 : W1.cell? ⟨p2, 0, none⟩ = some (.int .i64 ty) := HT.out.a.cell 0
      have k1 : W1.cell? ⟨p2, 1, none⟩ = some (.slice A2 dl c2) := HT.out.a.cell 1
      have k2 : W1.cell? ⟨p2, 2, none⟩ = some (.int .u64 (ts : Int)) := HT.out.a.cell 2
      have k3 : W1.cell? ⟨p2, 3, none⟩ = some (.slice B2 sl e2) := HT.out.a.cell 3
      have k4 : W1.cell? ⟨p2, 4, none⟩ = some (.int .u64 (hh : Int)) := HT.out.a.cell 4
      have k5 : W1.cell? ⟨p2, 5, none⟩ = some (.int .u64 (ff : Int)) := HT.out.a.cell 5
      have l0 : W1.cell? ⟨p4, 0, none⟩ = some (.int .i64 ty) := HT.out.b.cell 0
      have l1 : W1.cell? ⟨p4, 1, none⟩ = some (.slice A4 dl c4) := HT.out.b.cell 1
      have l2 : W1.cell? ⟨p4, 2, none⟩ = some (.int .u64 (fs : Int)) := HT.out.b.cell 2
      have l3 : W1.cell? ⟨p4, 3, none⟩ = some (.slice B4 sl e4) := HT.out.b.cell 3
      have l4 : W1.cell? ⟨p4, 4, none⟩ = some (.int .u64 (hh : Int)) := HT.out.b.cell 4
      have l5 : W1.cell? ⟨p4, 5, none⟩ = some (.int .u64 (ff : Int)) := HT.out.b.cell 5
      go_region_held3 (fun w' => w'.cell? ⟨p2, 0, none⟩ = some (.int .i64 ty) ∧ w'.cell? ⟨p2, 1, none⟩ = some (.slice A2 dl c2) ∧ w'.cell? ⟨p2, 2, none⟩ = some (.int .u64 (ts : Int)) ∧ w'.cell? ⟨p2, 3, none⟩ = some (.slice B2 sl e2) ∧ w'.cell? ⟨p2, 4, none⟩ = some (.int .u64 (hh : Int)) ∧ w'.cell? ⟨p2, 5, none⟩ = some (.int .u64 (ff : Int)) ∧ w'.cell? ⟨p4, 0, none⟩ = some (.int .i64 ty) ∧ w'.cell? ⟨p4, 1, none⟩ = some (.slice A4 dl c4) ∧ w'.cell? ⟨p4, 2, none⟩ = some (.int .u64 (fs : Int)) ∧ w'.cell? ⟨p4, 3, none⟩ = some (.slice B4 sl e4) ∧ w'.cell? ⟨p4, 4, none⟩ = some (.int .u64 (hh : Int)) ∧ w'.cell? ⟨p4, 5, none⟩ = some (.int .u64 (ff : Int))) (exact ⟨k0, k1, k2, k3, k4, k5, l0, l1, l2, l3, l4, l5⟩) (first | (go_at_call 26; refine (HTO.out _ _ _ _ _).mono ?_; clear HTO; rintro e w5 ⟨rfl, hb⟩; have hT := HT.out.drew.next hb; clear k0 k1 k2 k3 k4 k5 l0 l1 l2 l3 l4 l5 HT hb; have HT := Lib.hid hT; have k0 := hT.a.cell 0; have k1 := hT.a.cell 1; have k2 := hT.a.cell 2; have k3 := hT.a.cell 3; have k4 := hT.a.cell 4; have k5 := hT.a.cell 5; have l0 := hT.b.cell 0; have l1 := hT.b.cell 1; have l2 := hT.b.cell 2; have l3 := hT.b.cell 3; have l4 := hT.b.cell 4; have l5 := hT.b.cell 5; clear hT) | (go_at_call 25; refine (HSF.out _ _ _ _ _ _ _ _ _ _ HT.out.r1 HT.out.r3 HT.out.r2 HT.out.r4 HT.out.hB).mono ?_; clear HSF; rintro e w6 ⟨rfl, hb⟩; have hT := HT.out.next hb; clear k0 k1 k2 k3 k4 k5 l0 l1 l2 l3 l4 l5 HT hb; have HT := Lib.hid hT; have k0 := hT.a.cell 0; have k1 := hT.a.cell 1; have k2 := hT.a.cell 2; have k3 := hT.a.cell 3; have k4 := hT.a.cell 4; have k5 := hT.a.cell 5; have l0 := hT.b.cell 0; have l1 := hT.b.cell 1; have l2 := hT.b.cell 2; have l3 := hT.b.cell 3; have l4 := hT.b.cell 4; have l5 := hT.b.cell 5; clear hT) | (go_at_call 7; refine (HAW.out _ (HW2.out _ HT.out.below)).mono ?_; clear HAW; rintro e w7 ⟨rfl, hb⟩; have hT := HT.out.next hb; clear k0 k1 k2 k3 k4 k5 l0 l1 l2 l3 l4 l5 HT hb; have HT := Lib.hid hT; have k0 := hT.a.cell 0; have k1 := hT.a.cell 1; have k2 := hT.a.cell 2; have k3 := hT.a.cell 3; have k4 := hT.a.cell 4; have k5 := hT.a.cell 5; have l0 := hT.b.cell 0; have l1 := hT.b.cell 1; have l2 := hT.b.cell 2; have l3 := hT.b.cell 3; have l4 := hT.b.cell 4; have l5 := hT.b.cell 5; clear hT) | fail)
      all_goals
        go_wp2
        go_ret
        exact ⟨rfl, HW2.out _ HT.out.below⟩
end Go.Proofs.YtijbnmmeecmbjaaDoor
