/- The thin package's pbLink and pbNode: a message as the package takes it, out of data; and what such a message is in memory. -/
import Derived.Test.YthgbhaackihbjaaDoorPbA
namespace Go.Proofs.YthgbhaackihbjaaDoor
open Go.RowKit

/-- A link's message. -/
structure ML where
  hash : Option (List UInt8)
  name : Option ByteArray
  size : Option Nat
def ml (l : PLk) : ML := ⟨if l.hh then some l.hash else none, if l.hn then some l.name else none, if l.hs then some l.size else none⟩
def optBytes (o : Option (List UInt8)) : List UInt8 := o.getD []
/-- Bytes that are there or not: a value; its block lies from lo on, below B. -/
def OptSlice (w : World) (lo B : Nat) (v : Value) (o : Option (List UInt8)) : Prop :=
  ∃ A c, v = .slice A (optBytes o).length c ∧ A.isNone = o.isNone ∧ (optBytes o).length ≤ c ∧ Reads w B 1 A (optBytes o).length (u8s (optBytes o)) ∧ ∀ ad, A = some ad → lo ≤ ad.block
def OptStr (w : World) (lo B : Nat) (v : Value) (o : Option ByteArray) : Prop :=
  (o = none ∧ v = .pointer none) ∨ ∃ s q, o = some s ∧ lo ≤ q ∧ q < B ∧ v = .pointer (some ⟨q, 0, none⟩) ∧ w.cell? ⟨q, 0, none⟩ = some (.string s)
def OptNum (w : World) (lo B : Nat) (v : Value) (o : Option Nat) : Prop :=
  (o = none ∧ v = .pointer none) ∨ ∃ n q, o = some n ∧ n < 18446744073709551616 ∧ lo ≤ q ∧ q < B ∧ v = .pointer (some ⟨q, 0, none⟩) ∧ w.cell? ⟨q, 0, none⟩ = some (.int .u64 n)
structure LinkObj (w : World) (lo B p : Nat) (m : ML) : Prop where
  le : lo ≤ p
  lt : p < B
  h : ∃ v, w.cell? ⟨p, 0, none⟩ = some v ∧ OptSlice w lo B v m.hash
  nm : ∃ v, w.cell? ⟨p, 1, none⟩ = some v ∧ OptStr w lo B v m.name
  sz : ∃ v, w.cell? ⟨p, 2, none⟩ = some v ∧ OptNum w lo B v m.size
  un : w.cell? ⟨p, 3, none⟩ = some (.slice none 0 0)
/-- Two worlds read the same in the blocks from lo on, below B. -/
def Alike (lo B : Nat) (w w' : World) : Prop := ∀ a : Addr, lo ≤ a.block → a.block < B → w'.cell? a = w.cell? a
theorem Alike.of_below {lo B : Nat} {w w' : World} (h : Below B w w') : Alike lo B w w' := fun _ _ h2 => h.cell h2
theorem Alike.of_grown {lo B : Nat} {w w' : World} {row : Option Nat} (h : w.grownBy w' row) (hB : B ≤ w.heap.size) (hr : ∀ k, row = some k → k < lo ∨ B ≤ k) : Alike lo B w w' :=
  fun a h1 h2 => World.cell?_of_block (h.block a.block (by omega) (fun e => by have := hr _ e.symm; omega))
theorem Reads.alike {w w' : World} {lo B n : Nat} {A : Option Addr} {xs : List Value} (h : Reads w B 1 A n xs) (hlo : ∀ ad, A = some ad → lo ≤ ad.block) (hk : Alike lo B w w') : Reads w' B 1 A n xs :=
  ⟨h.1, fun hn => by
    obtain ⟨ad, e, hb, hc⟩ := h.2 hn
    exact ⟨ad, e, hb, fun j u hu => (hk _ (by rw [block_of_add]; exact hlo ad e) (by rw [block_of_add]; exact hb)).trans (hc j u hu)⟩⟩
theorem OptSlice.alike {w w' : World} {lo B : Nat} {v : Value} {o : Option (List UInt8)} (h : OptSlice w lo B v o) (hk : Alike lo B w w') : OptSlice w' lo B v o := by
  obtain ⟨A, c, h1, h2, h3, h4, h5⟩ := h
  exact ⟨A, c, h1, h2, h3, h4.alike h5 hk, h5⟩
theorem OptStr.alike {w w' : World} {lo B : Nat} {v : Value} {o : Option ByteArray} (h : OptStr w lo B v o) (hk : Alike lo B w w') : OptStr w' lo B v o := by
  rcases h with h | ⟨s, q, h1, h2, h3, h4, h5⟩
  · exact .inl h
  · exact .inr ⟨s, q, h1, h2, h3, h4, (hk ⟨q, 0, none⟩ h2 h3).trans h5⟩
theorem OptNum.alike {w w' : World} {lo B : Nat} {v : Value} {o : Option Nat} (h : OptNum w lo B v o) (hk : Alike lo B w w') : OptNum w' lo B v o := by
  rcases h with h | ⟨s, q, h1, h0, h2, h3, h4, h5⟩
  · exact .inl h
  · exact .inr ⟨s, q, h1, h0, h2, h3, h4, (hk ⟨q, 0, none⟩ h2 h3).trans h5⟩
theorem LinkObj.alike {w w' : World} {lo B p : Nat} {m : ML} (h : LinkObj w lo B p m) (hk : Alike lo B w w') : LinkObj w' lo B p m := by
  obtain ⟨le, lt, ⟨v0, a0, b0⟩, ⟨v1, a1, b1⟩, ⟨v2, a2, b2⟩, un⟩ := h
  exact ⟨le, lt, ⟨v0, (hk ⟨p, 0, none⟩ le lt).trans a0, b0.alike hk⟩, ⟨v1, (hk ⟨p, 1, none⟩ le lt).trans a1, b1.alike hk⟩, ⟨v2, (hk ⟨p, 2, none⟩ le lt).trans a2, b2.alike hk⟩, (hk ⟨p, 3, none⟩ le lt).trans un⟩
theorem OptSlice.wide {w : World} {lo B lo' B' : Nat} {v : Value} {o : Option (List UInt8)} (h : OptSlice w lo B v o) (h1 : lo' ≤ lo) (h2 : B ≤ B') : OptSlice w lo' B' v o := by
  obtain ⟨A, c, a, b, d, e, f⟩ := h
  exact ⟨A, c, a, b, d, e.more h2, fun ad hA => Nat.le_trans h1 (f ad hA)⟩
theorem LinkObj.wide {w : World} {lo B lo' B' p : Nat} {m : ML} (h : LinkObj w lo B p m) (h1 : lo' ≤ lo) (h2 : B ≤ B') : LinkObj w lo' B' p m := by
  obtain ⟨le, lt, ⟨v0, a0, b0⟩, ⟨v1, a1, b1⟩, ⟨v2, a2, b2⟩, un⟩ := h
  refine ⟨by omega, by omega, ⟨v0, a0, b0.wide h1 h2⟩, ⟨v1, a1, ?_⟩, ⟨v2, a2, ?_⟩, un⟩
  · rcases b1 with b1 | ⟨s, q, c1, c2, c3, c4⟩
    · exact .inl b1
    · exact .inr ⟨s, q, c1, by omega, by omega, c4⟩
  · rcases b2 with b2 | ⟨s, q, c1, c0, c2, c3, c4⟩
    · exact .inl b2
    · exact .inr ⟨s, q, c1, c0, by omega, by omega, c4⟩
theorem LinkObj.below {w w' : World} {lo B p : Nat} {m : ML} (h : LinkObj w lo B p m) (hb : Below B w w') : LinkObj w' lo B p m := h.alike (.of_below hb)

/-- A pointer to a link's message, all of it new. -/
structure NewLink (w : World) (m : ML) (r : Ending) (w' : World) : Prop where
  ex : ∃ p, r = .returned (.pointer (some ⟨p, 0, none⟩)) ∧ LinkObj w' w.heap.size w'.heap.size p m
  below : Below w.heap.size w w'
theorem bcell {B : Nat} {W w1 : World} (hb : Below B W w1) : (∀ b o, b < B → w1.cell? ⟨b, o, none⟩ = W.cell? ⟨b, o, none⟩) ∧ (∀ b o, b < B → w1.frozen? ⟨b, o, none⟩ = W.frozen? ⟨b, o, none⟩) :=
  ⟨fun b o h => hb.cell (p := ⟨b, o, none⟩) h, fun b o h => hb.frozen (p := ⟨b, o, none⟩) h⟩

theorem own_nonnil {w : World} {base n c : Nat} {e : TypeId} {size : Nat} {A : Option Addr} {xs : List Value} (h : w.ownsRow base e size (.slice A n c) n xs) (hne : Value.slice A n c ≠ .slice none 0 0) : A.isNone = false := by
  rcases h.2 with ⟨hv, _⟩ | ⟨g, cap, cur, hv, _⟩
  · exact absurd hv hne
  · injection hv with h1
    rw [h1]; rfl
set_option maxRecDepth 100000 in
set_option maxHeartbeats 1000000 in
theorem pbLink_any (l : PLk) (A : Option Addr) (c B : Nat) (w : World) (hr : Reads w B 1 A l.hash.length (u8s l.hash)) (hc : l.hash.length ≤ c) (hB : B ≤ w.heap.size) (hn : l.hash.length ≤ 140737488355328) (hsz : l.size < 18446744073709551616) :
    Calls Tryd.prog 33 #[.agg #[.bool l.hh, .bool l.hn, .bool l.hs, .slice A l.hash.length c, .string l.name, .int .u64 l.size]] w (NewLink w (ml l)) := by
  obtain ⟨hh, hnn, hs, hash, name, size⟩ := l
  simp only at hr hc hn hsz ⊢
  obtain ⟨i0, hi, hz0, hz1, hz2⟩ := info_parts infoU8
  generalize hL : hash.length = n at hr hc hn ⊢
  have HL := Lib.hid hL
  have HSZ := Lib.hid hsz
  clear hL hsz
  cases hh with
  | true =>
    have own0 := World.ownsRow_made (base := w.heap.size + 2) (e := 5) (size := 1) ((w.alloc (.cells #[.bool true, .bool hnn, .bool hs, .slice A n c, .string name, .int .u64 size] 53)).alloc (.cells #[.slice none 0 0, .pointer none, .pointer none, .slice none 0 0, .int .i32 0] 68)) #[] 0 (by simp) (by unfold maxLen; omega) rfl
    have HO0 : Hid ((((w.alloc (.cells #[.bool true, .bool hnn, .bool hs, .slice A n c, .string name, .int .u64 size] 53)).alloc (.cells #[.slice none 0 0, .pointer none, .pointer none, .slice none 0 0, .int .i32 0] 68)).alloc (.cells #[] 5)).ownsRow (w.heap.size + 2) 5 1 (.slice (some ⟨w.heap.size + 1 + 1, 0, none⟩) 0 0) 0 []) := by
      rw [World.size_alloc, World.size_alloc] at own0
      exact own0
    have hr2 := ((hr.alloc hB (.cells #[.bool true, .bool hnn, .bool hs, .slice A n c, .string name, .int .u64 size] 53)).alloc (by simp; omega) (.cells #[.slice none 0 0, .pointer none, .pointer none, .slice none 0 0, .int .i32 0] 68)).alloc (by simp; omega) (.cells #[] 5)
    have HR2 := Lib.hid hr2
    have b1 : 0 + n ≤ maxLen := by unfold maxLen; omega
    have b2 : (0 + n) * 1 ≤ 140737488355328 := by omega
    have b3 : w.heap.size + 2 ≤ (((w.alloc (.cells #[.bool true, .bool hnn, .bool hs, .slice A n c, .string name, .int .u64 size] 53)).alloc (.cells #[.slice none 0 0, .pointer none, .pointer none, .slice none 0 0, .int .i32 0] 68)).alloc (.cells #[] 5)).heap.size := by simp
    have B3 := Lib.hid b3
    have h1 := u8s_one hash
    clear own0 hr2 b3 hr
    cases hnn with
    | true =>
      cases hs with
      | true =>
        go_enter Tryd.func33, Tryd.ntmps33
        go_wp2_with (at_builtin; refine wpList_append_any _ rfl (.tmp 11) (.tmp 13) 22 rfl (w.heap.size + 2) 5 i0 (.int .u8 0) 1 1 Tryd.underlying22 hi hz0 hz1 hz2 rfl (by decide) _ 0 [] rfl HO0.out B A n c _ rfl HR2.out h1 b1 b2 B3.out ?_; rintro v3 w3 hown3 hg3 _ hnil3; have hbw : Below (w.heap.size + 2) ((w.alloc (.cells #[.bool true, .bool true, .bool true, .slice A n c, .string name, .int .u64 size] 53)).alloc (.cells #[.slice none 0 0, .pointer none, .pointer none, .slice none 0 0, .int .i32 0] 68)) w3 := ((Below.refl _ _).alloc (by simp) _).grown hg3 B3.out (own_base HO0.out); obtain ⟨hc3, hf3⟩ := bcell hbw; have hz3 : w.heap.size + 1 < w3.heap.size := (by have h := hbw.size; simp at h; omega); have hz0 : w.heap.size < w3.heap.size := (by omega); simp only [Nat.zero_add, List.nil_append] at hown3; obtain ⟨A3, c3, rfl, hle3, hr3⟩ := own_shape hown3; have HA3 := Lib.hid (own_nonnil hown3 (fun e => (by have h2 : Value.slice (some ⟨w.heap.size + 1 + 1, 0, none⟩) 0 0 = .slice none 0 0 := (hnil3.1 e).1; cases h2))); have HW3 := Lib.hid (And.intro hown3 hbw); clear hr3 hnil3)
        go_ret
        have e0 : (optBytes (some hash)).length = n := HL.out
        refine ⟨⟨w.heap.size + 1, rfl, by omega, by simp <;> omega, ⟨.slice A3 n c3, ?_, A3, c3, ?_, HA3.out, ?_, ?_, ?_⟩, ?_, ?_, ?_⟩, ?_⟩
        · go_simp
        · show Value.slice A3 n c3 = .slice A3 (optBytes (some hash)).length c3
          rw [e0]
        · show (optBytes (some hash)).length ≤ c3
          rw [e0]
          exact hle3
        · show Reads _ _ 1 A3 (optBytes (some hash)).length (u8s hash)
          rw [e0]
          refine Reads.of_own (base := w.heap.size + 2) (e := 5) (c := c3) ?_
          exact (World.ownsRow.alloc (World.ownsRow.alloc (ownsRow_setCell_below (ownsRow_setCell_below (ownsRow_setCell_below HW3.out.1 (by simp) _) (by simp) _) (by simp) _) _) _)
        · intro ad hA
          have h := own_base HW3.out.1 ad.block (by rw [hA]; rfl)
          omega
        · refine ⟨_, ?_, .inr ⟨name, w3.heap.size, rfl, by omega, by simp <;> omega, rfl, ?_⟩⟩
          · go_simp
          · go_simp
        · refine ⟨_, ?_, .inr ⟨size, w3.heap.size + 1, rfl, HSZ.out, by omega, by simp, rfl, ?_⟩⟩
          · go_simp
          · go_simp
        · go_simp
        · have hb0 : Below w.heap.size w w3 := (((Below.refl w.heap.size w).alloc (Nat.le_refl _) _).alloc (by simp) _).trans (HW3.out.2.mono (by omega))
          exact (Below.alloc (Below.alloc (Below.setCell (Below.setCell (Below.setCell hb0 (by simp) _) (by simp) _) (by simp) _) (by simp; omega) _) (by simp; omega) _)
      | false =>
        go_enter Tryd.func33, Tryd.ntmps33
        go_wp2_with (at_builtin; refine wpList_append_any _ rfl (.tmp 11) (.tmp 13) 22 rfl (w.heap.size + 2) 5 i0 (.int .u8 0) 1 1 Tryd.underlying22 hi hz0 hz1 hz2 rfl (by decide) _ 0 [] rfl HO0.out B A n c _ rfl HR2.out h1 b1 b2 B3.out ?_; rintro v3 w3 hown3 hg3 _ hnil3; have hbw : Below (w.heap.size + 2) ((w.alloc (.cells #[.bool true, .bool true, .bool false, .slice A n c, .string name, .int .u64 size] 53)).alloc (.cells #[.slice none 0 0, .pointer none, .pointer none, .slice none 0 0, .int .i32 0] 68)) w3 := ((Below.refl _ _).alloc (by simp) _).grown hg3 B3.out (own_base HO0.out); obtain ⟨hc3, hf3⟩ := bcell hbw; have hz3 : w.heap.size + 1 < w3.heap.size := (by have h := hbw.size; simp at h; omega); have hz0 : w.heap.size < w3.heap.size := (by omega); simp only [Nat.zero_add, List.nil_append] at hown3; obtain ⟨A3, c3, rfl, hle3, hr3⟩ := own_shape hown3; have HA3 := Lib.hid (own_nonnil hown3 (fun e => (by have h2 : Value.slice (some ⟨w.heap.size + 1 + 1, 0, none⟩) 0 0 = .slice none 0 0 := (hnil3.1 e).1; cases h2))); have HW3 := Lib.hid (And.intro hown3 hbw); clear hr3 hnil3)
        go_ret
        have e0 : (optBytes (some hash)).length = n := HL.out
        refine ⟨⟨w.heap.size + 1, rfl, by omega, by simp <;> omega, ⟨.slice A3 n c3, ?_, A3, c3, ?_, HA3.out, ?_, ?_, ?_⟩, ?_, ?_, ?_⟩, ?_⟩
        · go_simp
        · show Value.slice A3 n c3 = .slice A3 (optBytes (some hash)).length c3
          rw [e0]
        · show (optBytes (some hash)).length ≤ c3
          rw [e0]
          exact hle3
        · show Reads _ _ 1 A3 (optBytes (some hash)).length (u8s hash)
          rw [e0]
          refine Reads.of_own (base := w.heap.size + 2) (e := 5) (c := c3) ?_
          exact (World.ownsRow.alloc (ownsRow_setCell_below (ownsRow_setCell_below HW3.out.1 (by simp) _) (by simp) _) _)
        · intro ad hA
          have h := own_base HW3.out.1 ad.block (by rw [hA]; rfl)
          omega
        · refine ⟨_, ?_, .inr ⟨name, w3.heap.size, rfl, by omega, by simp <;> omega, rfl, ?_⟩⟩
          · go_simp
          · go_simp
        · refine ⟨_, ?_, .inl ⟨rfl, rfl⟩⟩
          go_simp
        · go_simp
        · have hb0 : Below w.heap.size w w3 := (((Below.refl w.heap.size w).alloc (Nat.le_refl _) _).alloc (by simp) _).trans (HW3.out.2.mono (by omega))
          exact (Below.alloc (Below.setCell (Below.setCell hb0 (by simp) _) (by simp) _) (by simp; omega) _)
    | false =>
      cases hs with
      | true =>
        go_enter Tryd.func33, Tryd.ntmps33
        go_wp2_with (at_builtin; refine wpList_append_any _ rfl (.tmp 11) (.tmp 13) 22 rfl (w.heap.size + 2) 5 i0 (.int .u8 0) 1 1 Tryd.underlying22 hi hz0 hz1 hz2 rfl (by decide) _ 0 [] rfl HO0.out B A n c _ rfl HR2.out h1 b1 b2 B3.out ?_; rintro v3 w3 hown3 hg3 _ hnil3; have hbw : Below (w.heap.size + 2) ((w.alloc (.cells #[.bool true, .bool false, .bool true, .slice A n c, .string name, .int .u64 size] 53)).alloc (.cells #[.slice none 0 0, .pointer none, .pointer none, .slice none 0 0, .int .i32 0] 68)) w3 := ((Below.refl _ _).alloc (by simp) _).grown hg3 B3.out (own_base HO0.out); obtain ⟨hc3, hf3⟩ := bcell hbw; have hz3 : w.heap.size + 1 < w3.heap.size := (by have h := hbw.size; simp at h; omega); have hz0 : w.heap.size < w3.heap.size := (by omega); simp only [Nat.zero_add, List.nil_append] at hown3; obtain ⟨A3, c3, rfl, hle3, hr3⟩ := own_shape hown3; have HA3 := Lib.hid (own_nonnil hown3 (fun e => (by have h2 : Value.slice (some ⟨w.heap.size + 1 + 1, 0, none⟩) 0 0 = .slice none 0 0 := (hnil3.1 e).1; cases h2))); have HW3 := Lib.hid (And.intro hown3 hbw); clear hr3 hnil3)
        go_ret
        have e0 : (optBytes (some hash)).length = n := HL.out
        refine ⟨⟨w.heap.size + 1, rfl, by omega, by simp <;> omega, ⟨.slice A3 n c3, ?_, A3, c3, ?_, HA3.out, ?_, ?_, ?_⟩, ?_, ?_, ?_⟩, ?_⟩
        · go_simp
        · show Value.slice A3 n c3 = .slice A3 (optBytes (some hash)).length c3
          rw [e0]
        · show (optBytes (some hash)).length ≤ c3
          rw [e0]
          exact hle3
        · show Reads _ _ 1 A3 (optBytes (some hash)).length (u8s hash)
          rw [e0]
          refine Reads.of_own (base := w.heap.size + 2) (e := 5) (c := c3) ?_
          exact (World.ownsRow.alloc (ownsRow_setCell_below (ownsRow_setCell_below HW3.out.1 (by simp) _) (by simp) _) _)
        · intro ad hA
          have h := own_base HW3.out.1 ad.block (by rw [hA]; rfl)
          omega
        · refine ⟨_, ?_, .inl ⟨rfl, rfl⟩⟩
          go_simp
        · refine ⟨_, ?_, .inr ⟨size, w3.heap.size, rfl, HSZ.out, by omega, by simp, rfl, ?_⟩⟩
          · go_simp
          · go_simp
        · go_simp
        · have hb0 : Below w.heap.size w w3 := (((Below.refl w.heap.size w).alloc (Nat.le_refl _) _).alloc (by simp) _).trans (HW3.out.2.mono (by omega))
          exact (Below.alloc (Below.setCell (Below.setCell hb0 (by simp) _) (by simp) _) (by simp; omega) _)
      | false =>
        go_enter Tryd.func33, Tryd.ntmps33
        go_wp2_with (at_builtin; refine wpList_append_any _ rfl (.tmp 11) (.tmp 13) 22 rfl (w.heap.size + 2) 5 i0 (.int .u8 0) 1 1 Tryd.underlying22 hi hz0 hz1 hz2 rfl (by decide) _ 0 [] rfl HO0.out B A n c _ rfl HR2.out h1 b1 b2 B3.out ?_; rintro v3 w3 hown3 hg3 _ hnil3; have hbw : Below (w.heap.size + 2) ((w.alloc (.cells #[.bool true, .bool false, .bool false, .slice A n c, .string name, .int .u64 size] 53)).alloc (.cells #[.slice none 0 0, .pointer none, .pointer none, .slice none 0 0, .int .i32 0] 68)) w3 := ((Below.refl _ _).alloc (by simp) _).grown hg3 B3.out (own_base HO0.out); obtain ⟨hc3, hf3⟩ := bcell hbw; have hz3 : w.heap.size + 1 < w3.heap.size := (by have h := hbw.size; simp at h; omega); have hz0 : w.heap.size < w3.heap.size := (by omega); simp only [Nat.zero_add, List.nil_append] at hown3; obtain ⟨A3, c3, rfl, hle3, hr3⟩ := own_shape hown3; have HA3 := Lib.hid (own_nonnil hown3 (fun e => (by have h2 : Value.slice (some ⟨w.heap.size + 1 + 1, 0, none⟩) 0 0 = .slice none 0 0 := (hnil3.1 e).1; cases h2))); have HW3 := Lib.hid (And.intro hown3 hbw); clear hr3 hnil3)
        go_ret
        have e0 : (optBytes (some hash)).length = n := HL.out
        refine ⟨⟨w.heap.size + 1, rfl, by omega, by simp <;> omega, ⟨.slice A3 n c3, ?_, A3, c3, ?_, HA3.out, ?_, ?_, ?_⟩, ?_, ?_, ?_⟩, ?_⟩
        · go_simp
        · show Value.slice A3 n c3 = .slice A3 (optBytes (some hash)).length c3
          rw [e0]
        · show (optBytes (some hash)).length ≤ c3
          rw [e0]
          exact hle3
        · show Reads _ _ 1 A3 (optBytes (some hash)).length (u8s hash)
          rw [e0]
          refine Reads.of_own (base := w.heap.size + 2) (e := 5) (c := c3) ?_
          exact (ownsRow_setCell_below HW3.out.1 (by simp) _)
        · intro ad hA
          have h := own_base HW3.out.1 ad.block (by rw [hA]; rfl)
          omega
        · refine ⟨_, ?_, .inl ⟨rfl, rfl⟩⟩
          go_simp
        · refine ⟨_, ?_, .inl ⟨rfl, rfl⟩⟩
          go_simp
        · go_simp
        · have hb0 : Below w.heap.size w w3 := (((Below.refl w.heap.size w).alloc (Nat.le_refl _) _).alloc (by simp) _).trans (HW3.out.2.mono (by omega))
          exact (Below.setCell hb0 (by simp) _)
  | false =>
    clear hr
    cases hnn with
    | true =>
      cases hs with
      | true =>
        go_enter Tryd.func33, Tryd.ntmps33
        go_wp2
        go_ret
        refine ⟨⟨w.heap.size + 1, rfl, by omega, by simp <;> omega, ⟨.slice none 0 0, ?_, none, 0, rfl, rfl, Nat.le_refl _, Reads.none_, nofun⟩, ?_, ?_, ?_⟩, ?_⟩
        · go_simp
        · refine ⟨_, ?_, .inr ⟨name, w.heap.size + 1 + 1, rfl, by omega, by simp <;> omega, rfl, ?_⟩⟩
          · go_simp
          · go_simp
        · refine ⟨_, ?_, .inr ⟨size, w.heap.size + 1 + 1 + 1, rfl, HSZ.out, by omega, by simp <;> omega, rfl, ?_⟩⟩
          · go_simp
          · go_simp
        · go_simp
        · exact (Below.alloc (Below.alloc (Below.alloc (below_one _ _) (by simp <;> omega) _) (by simp <;> omega) _) (by simp <;> omega) _)
      | false =>
        go_enter Tryd.func33, Tryd.ntmps33
        go_wp2
        go_ret
        refine ⟨⟨w.heap.size + 1, rfl, by omega, by simp <;> omega, ⟨.slice none 0 0, ?_, none, 0, rfl, rfl, Nat.le_refl _, Reads.none_, nofun⟩, ?_, ?_, ?_⟩, ?_⟩
        · go_simp
        · refine ⟨_, ?_, .inr ⟨name, w.heap.size + 1 + 1, rfl, by omega, by simp <;> omega, rfl, ?_⟩⟩
          · go_simp
          · go_simp
        · refine ⟨_, ?_, .inl ⟨rfl, rfl⟩⟩
          go_simp
        · go_simp
        · exact (Below.alloc (Below.alloc (below_one _ _) (by simp <;> omega) _) (by simp <;> omega) _)
    | false =>
      cases hs with
      | true =>
        go_enter Tryd.func33, Tryd.ntmps33
        go_wp2
        go_ret
        refine ⟨⟨w.heap.size + 1, rfl, by omega, by simp <;> omega, ⟨.slice none 0 0, ?_, none, 0, rfl, rfl, Nat.le_refl _, Reads.none_, nofun⟩, ?_, ?_, ?_⟩, ?_⟩
        · go_simp
        · refine ⟨_, ?_, .inl ⟨rfl, rfl⟩⟩
          go_simp
        · refine ⟨_, ?_, .inr ⟨size, w.heap.size + 1 + 1, rfl, HSZ.out, by omega, by simp <;> omega, rfl, ?_⟩⟩
          · go_simp
          · go_simp
        · go_simp
        · exact (Below.alloc (Below.alloc (below_one _ _) (by simp <;> omega) _) (by simp <;> omega) _)
      | false =>
        go_enter Tryd.func33, Tryd.ntmps33
        go_wp2
        go_ret
        refine ⟨⟨w.heap.size + 1, rfl, by omega, by simp <;> omega, ⟨.slice none 0 0, ?_, none, 0, rfl, rfl, Nat.le_refl _, Reads.none_, nofun⟩, ?_, ?_, ?_⟩, ?_⟩
        · go_simp
        · refine ⟨_, ?_, .inl ⟨rfl, rfl⟩⟩
          go_simp
        · refine ⟨_, ?_, .inl ⟨rfl, rfl⟩⟩
          go_simp
        · go_simp
        · exact (Below.alloc (below_one _ _) (by simp <;> omega) _)
end Go.Proofs.YthgbhaackihbjaaDoor
