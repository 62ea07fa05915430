/- What a message is in memory as an argument: a node by value with a slice of links by value; the law's looks at its size. -/
import Derived.Test.YthgbhaackihbjaaDoorPbF
namespace Go.Proofs.YthgbhaackihbjaaDoor
open Go.RowKit

/-- A link as data. -/
structure PLk where
  hh : Bool
  hn : Bool
  hs : Bool
  hash : List UInt8
  name : ByteArray
  size : Nat
/-- A link's six cells, from place o of block b on. -/
structure LinkCells (w : World) (B : Nat) (l : PLk) (b o : Nat) : Prop where
  c0 : w.cell? ⟨b, o, none⟩ = some (.bool l.hh)
  c1 : w.cell? ⟨b, o + 1, none⟩ = some (.bool l.hn)
  c2 : w.cell? ⟨b, o + 2, none⟩ = some (.bool l.hs)
  c3 : ∃ A c, w.cell? ⟨b, o + 3, none⟩ = some (.slice A l.hash.length c) ∧ l.hash.length ≤ c ∧ c ≤ maxLen ∧ Reads w B 1 A l.hash.length (u8s l.hash)
  c4 : w.cell? ⟨b, o + 4, none⟩ = some (.string l.name)
  c5 : w.cell? ⟨b, o + 5, none⟩ = some (.int .u64 l.size)
  ok : l.size < 18446744073709551616
def Links (w : World) (B : Nat) (A : Option Addr) (n : Nat) (ls : List PLk) : Prop :=
  ls.length = n ∧ n ≤ maxLen ∧ (0 < n → ∃ b o, A = some ⟨b, o, none⟩ ∧ b < B ∧ ∀ i l, ls[i]? = some l → LinkCells w B l b (o + i * 6))
theorem LinkCells.below {w w' : World} {B : Nat} {l : PLk} {b o : Nat} (h : LinkCells w B l b o) (hb : Below B w w') (hlt : b < B) : LinkCells w' B l b o := by
  have e : ∀ j, w'.cell? ⟨b, j, none⟩ = w.cell? ⟨b, j, none⟩ := fun j => hb.cell (p := ⟨b, j, none⟩) hlt
  obtain ⟨A, c, h1, h2, h3, h4⟩ := h.c3
  exact ⟨by rw [e]; exact h.c0, by rw [e]; exact h.c1, by rw [e]; exact h.c2, ⟨A, c, by rw [e]; exact h1, h2, h3, h4.below hb⟩, by rw [e]; exact h.c4, by rw [e]; exact h.c5, h.ok⟩
theorem Links.below {w w' : World} {B n : Nat} {A : Option Addr} {ls : List PLk} (h : Links w B A n ls) (hb : Below B w w') : Links w' B A n ls :=
  ⟨h.1, h.2.1, fun hn => by
    obtain ⟨b, o, e, hlt, hc⟩ := h.2.2 hn
    exact ⟨b, o, e, hlt, fun i l hl => (hc i l hl).below hb hlt⟩⟩
theorem LinkCells.more {w : World} {B B' : Nat} {l : PLk} {b o : Nat} (h : LinkCells w B l b o) (hB : B ≤ B') : LinkCells w B' l b o := by
  obtain ⟨A, c, h1, h2, h3, h4⟩ := h.c3
  exact ⟨h.c0, h.c1, h.c2, ⟨A, c, h1, h2, h3, h4.more hB⟩, h.c4, h.c5, h.ok⟩
theorem Links.more {w : World} {B B' n : Nat} {A : Option Addr} {ls : List PLk} (h : Links w B A n ls) (hB : B ≤ B') : Links w B' A n ls :=
  ⟨h.1, h.2.1, fun hn => by
    obtain ⟨b, o, e, hlt, hc⟩ := h.2.2 hn
    exact ⟨b, o, e, by omega, fun i l hl => (hc i l hl).more hB⟩⟩

/-- A bool comes back, and all that was there is as it was. -/
structure Ans (w : World) (b : Bool) (r : Ending) (w' : World) : Prop where
  ret : r = .returned (.bool b)
  below : Below w.heap.size w w'

def linkFits (l : PLk) : Bool := decide (l.hash.length ≤ 2147483647) && decide (l.name.size ≤ 2147483647)
theorem fits22_any (l : PLk) (A : Option Addr) (c : Nat) (w : World) : Calls Tryd.prog 32 #[.agg #[.bool l.hh, .bool l.hn, .bool l.hs, .slice A l.hash.length c, .string l.name, .int .u64 l.size]] w (Ans w (linkFits l)) := by
  obtain ⟨hh, hn, hs, hash, name, size⟩ := l
  simp only [linkFits]
  generalize hash.length = n
  by_cases h1 : n ≤ 2147483647
  · by_cases h2 : name.size ≤ 2147483647
    · go_enter Tryd.func32, Tryd.ntmps32
      go_wp2
      go_ret
      exact ⟨by simp [h1, h2], below_one _ _⟩
    · go_enter Tryd.func32, Tryd.ntmps32
      go_wp2
      go_ret
      exact ⟨by simp [h1, h2], below_one _ _⟩
  · go_enter Tryd.func32, Tryd.ntmps32
    go_wp2
    go_ret
    exact ⟨by simp [h1], below_one _ _⟩

theorem all_take {α : Type} (ls : List α) (j : Nat) (h : j < ls.length) (p : α → Bool) : (ls.take (j + 1)).all p = ((ls.take j).all p && p ls[j]) := by
  rw [List.take_succ_eq_append_getElem h, List.all_append]
  simp only [List.all_cons, List.all_nil, Bool.and_true]
def linksFit (ls : List PLk) : Bool := decide (ls.length ≤ 2147483647) && ls.all linkFits
set_option maxRecDepth 100000 in
theorem fits21_any (A : Option Addr) (n c B : Nat) (ls : List PLk) (w : World) (hl : Links w B A n ls) (hB : B ≤ w.heap.size) : Calls Tryd.prog 22 #[.slice A n c] w (Ans w (linksFit ls)) := by
  have hln := hl.1
  have hmx := hl.2.1
  unfold maxLen at hmx
  by_cases h1 : n ≤ 2147483647
  · have HL := Lib.hid hl
    have HLN := Lib.hid hln
    clear hl hln
    go_enter Tryd.func22, Tryd.ntmps22
    go_wp2
    go_loopw [4, 10] (fun _ i wr => ∃ j : Nat, j ≤ n ∧ i = .int .i64 j ∧ Hid ((ls.take j).all linkFits = true) ∧ Below w.heap.size w wr) (fun _ i _ => n - (intOf i).toNat)
    case atStart => exact ⟨0, Nat.zero_le _, rfl, rfl, Below.refl _ _⟩
    case round =>
      obtain ⟨j, hj, rfl, HF, hbw⟩ := hrel
      by_cases hlt : j < n
      · obtain ⟨b, o, rfl, hbB, hc⟩ := (HL.out.below (hbw.mono hB)).2.2 (by omega)
        have hjl : j < ls.length := by have := HLN.out; omega
        have hcj := hc j ls[j] (List.getElem?_eq_getElem hjl)
        have hjm : ls[j] ∈ ls := List.getElem_mem hjl
        have htk := all_take ls j hjl linkFits
        generalize ls[j] = l at hcj hjm htk
        obtain ⟨c0, c1, c2, ⟨A3, c3, c3', hle3, hmx3, hr3⟩, c4, c5, hok⟩ := hcj
        have HT := Lib.hid htk
        clear hc htk
        cases hfit : linkFits l with
        | true =>
          have HFT := Lib.hid hfit
          clear hfit
          go_wp2_with (go_at_call 32; refine (fits22_any l A3 c3 _).mono ?_; rw [HFT.out]; rintro e w2 ⟨rfl, hb2⟩)
          go_roundw
          case rel => exact ⟨j + 1, by omega, by go_num, by show _ = _; rw [HT.out, HF.out, HFT.out]; rfl, below_then (below_alloc hbw _) (by simp; exact Nat.le_succ_of_le hbw.size) hb2⟩
          case measure => simp [intOf]; omega
        | false =>
          have HFT := Lib.hid hfit
          clear hfit
          go_wp2_with (go_at_call 32; refine (fits22_any l A3 c3 _).mono ?_; rw [HFT.out]; rintro e w2 ⟨rfl, hb2⟩)
          go_ret
          have e : ls.all linkFits = false := by
            rw [List.all_eq_false]
            exact ⟨l, hjm, by rw [HFT.out]; simp⟩
          exact ⟨by simp [linksFit, e], below_then (below_alloc hbw _) (by simp; exact Nat.le_succ_of_le hbw.size) hb2⟩
      · have e : ls.all linkFits = true := by
          have h := HF.out
          rwa [List.take_of_length_le (by have := HLN.out; omega)] at h
        have HE := Lib.hid e
        clear e
        go_wp2
        go_ret
        exact ⟨by simp [linksFit, HE.out, HLN.out, h1], hbw⟩
  · clear hl
    go_enter Tryd.func22, Tryd.ntmps22
    go_wp2
    go_ret
    exact ⟨by simp [linksFit, hln, h1], Below.refl _ _⟩

/-- A node as data, and as an argument by value. -/
structure PNd where
  has : Bool
  data : List UInt8
  links : List PLk
structure NodeArg (w : World) (B : Nat) (x : PNd) (v : Value) : Prop where
  ex : ∃ A n c A2 n2 c2, v = .agg #[.bool x.has, .slice A n c, .slice A2 n2 c2] ∧ n ≤ c ∧ c ≤ maxLen ∧ Reads w B 1 A n (u8s x.data) ∧ n2 ≤ c2 ∧ Links w B A2 n2 x.links
theorem NodeArg.below {w w' : World} {B : Nat} {x : PNd} {v : Value} (h : NodeArg w B x v) (hb : Below B w w') : NodeArg w' B x v := by
  obtain ⟨A, n, c, A2, n2, c2, h0, h1, h2, h3, h4, h5⟩ := h.ex
  exact ⟨A, n, c, A2, n2, c2, h0, h1, h2, h3.below hb, h4, h5.below hb⟩
def nodeFits (x : PNd) : Bool := decide (x.data.length ≤ 2147483647) && linksFit x.links
theorem data_len {w : World} {B n : Nat} {A : Option Addr} {l : List UInt8} (h : Reads w B 1 A n (u8s l)) : l.length = n := by have := h.1; simp only [u8s_length, Nat.mul_one] at this; exact this
theorem fits20_any (x : PNd) (v : Value) (B : Nat) (w : World) (hx : NodeArg w B x v) (hB : B ≤ w.heap.size) : Calls Tryd.prog 10 #[v] w (Ans w (nodeFits x)) := by
  obtain ⟨A, n, c, A2, n2, c2, rfl, hnc, hcm, hr, hn2, hl⟩ := hx.ex
  have hdn := data_len hr
  have HL := Lib.hid (hl.below ((below_one w (.cells #[.bool x.has, .slice A n c, .slice A2 n2 c2] 28)).mono hB))
  have HDN := Lib.hid hdn
  clear hx hr hdn hl
  by_cases h1 : n ≤ 2147483647
  · cases hfit : linksFit x.links with
    | true =>
      have HFT := Lib.hid hfit
      clear hfit
      go_enter Tryd.func10, Tryd.ntmps10
      go_wp2_with (go_at_call 22; refine (fits21_any _ _ _ B x.links _ HL.out (by simp; omega)).mono ?_; rw [HFT.out]; rintro e w2 ⟨rfl, hb2⟩)
      go_ret
      exact ⟨by simp [nodeFits, HDN.out, h1, HFT.out], below_then (below_one _ _) (by simp) hb2⟩
    | false =>
      have HFT := Lib.hid hfit
      clear hfit
      go_enter Tryd.func10, Tryd.ntmps10
      go_wp2_with (go_at_call 22; refine (fits21_any _ _ _ B x.links _ HL.out (by simp; omega)).mono ?_; rw [HFT.out]; rintro e w2 ⟨rfl, hb2⟩)
      go_ret
      exact ⟨by simp [nodeFits, HFT.out], below_then (below_one _ _) (by simp) hb2⟩
  · go_enter Tryd.func10, Tryd.ntmps10
    go_wp2
    go_ret
    exact ⟨by simp [nodeFits, HDN.out, h1], below_one _ _⟩

def linkSmall (l : PLk) : Bool := decide (l.hash.length ≤ 100) && decide (l.name.size ≤ 100)
def nodeSmall (x : PNd) : Bool := decide (x.data.length ≤ 500) && decide (x.links.length ≤ 20) && x.links.all linkSmall
set_option maxRecDepth 100000 in
theorem small_any (x : PNd) (v : Value) (B : Nat) (w : World) (hx : NodeArg w B x v) (hB : B ≤ w.heap.size) : Calls Tryd.prog 11 #[v] w (Ans w (nodeSmall x)) := by
  obtain ⟨A, n, c, A2, n2, c2, rfl, hnc, hcm, hr, hn2, hl⟩ := hx.ex
  have hdn := data_len hr
  have hln := hl.1
  have HL := Lib.hid (hl.below ((below_one w (.cells #[.bool x.has, .slice A n c, .slice A2 n2 c2] 28)).mono hB))
  have HDN := Lib.hid hdn
  have HLN := Lib.hid hln
  clear hx hr hdn hl hln
  by_cases h1 : n ≤ 500
  · by_cases h2 : n2 ≤ 20
    · have g1 : decide ((500 : Int) < (n : Int)) = false := by simp; omega
      have g2 : decide ((20 : Int) < (n2 : Int)) = false := by simp; omega
      go_enter Tryd.func11, Tryd.ntmps11
      go_wp2
      go_loopw [4, 18] (fun _ i wr => ∃ j : Nat, j ≤ n2 ∧ i = .int .i64 j ∧ Hid ((x.links.take j).all linkSmall = true) ∧ Below (w.heap.size + 1) (w.alloc (.cells #[.bool x.has, .slice A n c, .slice A2 n2 c2] 28)) wr) (fun _ i _ => n2 - (intOf i).toNat)
      case atStart => exact ⟨0, Nat.zero_le _, rfl, rfl, Below.refl _ _⟩
      case round =>
        obtain ⟨j, hj, rfl, HF, hbw⟩ := hrel
        have hbs := hbw.size
        have hfr : Below w.heap.size w wr := below_then (below_one _ _) (by simp) (hbw.mono (by simp))
        by_cases hlt : j < n2
        · obtain ⟨b, o, rfl, hbB, hc⟩ := (HL.out.below (hbw.mono (by omega))).2.2 (by omega)
          have hjl : j < x.links.length := by have := HLN.out; omega
          have hcj := hc j x.links[j] (List.getElem?_eq_getElem hjl)
          have hjm : x.links[j] ∈ x.links := List.getElem_mem hjl
          have htk := all_take x.links j hjl linkSmall
          generalize x.links[j] = l at hcj hjm htk
          obtain ⟨c0, c1, c2, ⟨A3, c3, c3', hle3, hmx3, hr3⟩, c4, c5, hok⟩ := hcj
          have HT := Lib.hid htk
          clear hc htk hr3 hle3
          generalize hhl : l.hash.length = m at c3'
          have HHL := Lib.hid hhl
          clear hhl
          by_cases q1 : m ≤ 100
          · by_cases q2 : l.name.size ≤ 100
            · have HFT : Hid (linkSmall l = true) := by show _ = _; simp [linkSmall, HHL.out, q1, q2]
              have d1 : decide ((100 : Int) < (m : Int)) = false := by simp; omega
              have d2 : decide ((100 : Int) < (l.name.size : Int)) = false := by simp; omega
              go_wp2
              go_roundw
              case rel => exact ⟨j + 1, by omega, by go_num, by show _ = _; rw [HT.out, HF.out, HFT.out]; rfl, hbw.alloc (by have h := hbw.size; simp at h; omega) _⟩
              case measure => simp [intOf]; omega
            · have HFT : Hid (linkSmall l = false) := by show _ = _; simp [linkSmall, q2]
              have d1 : decide ((100 : Int) < (m : Int)) = false := by simp; omega
              have d2 : decide ((100 : Int) < (l.name.size : Int)) = true := by simp; omega
              go_wp2
              go_ret
              have e : x.links.all linkSmall = false := by rw [List.all_eq_false]; exact ⟨l, hjm, by rw [HFT.out]; simp⟩
              exact ⟨by simp [nodeSmall, e], below_alloc hfr _⟩
          · have HFT : Hid (linkSmall l = false) := by show _ = _; simp [linkSmall, HHL.out, q1]
            have d1 : decide ((100 : Int) < (m : Int)) = true := by simp; omega
            go_wp2
            go_ret
            have e : x.links.all linkSmall = false := by rw [List.all_eq_false]; exact ⟨l, hjm, by rw [HFT.out]; simp⟩
            exact ⟨by simp [nodeSmall, e], below_alloc hfr _⟩
        · have e : x.links.all linkSmall = true := by
            have h := HF.out
            rwa [List.take_of_length_le (by have := HLN.out; omega)] at h
          have HE := Lib.hid e
          clear e
          go_wp2
          go_ret
          exact ⟨by simp [nodeSmall, HE.out, HLN.out, HDN.out, h1, h2], hfr⟩
    · have g1 : decide ((500 : Int) < (n : Int)) = false := by simp; omega
      have g2 : decide ((20 : Int) < (n2 : Int)) = true := by simp; omega
      go_enter Tryd.func11, Tryd.ntmps11
      go_wp2
      go_ret
      exact ⟨by simp [nodeSmall, HLN.out, h2], below_one _ _⟩
  · have g1 : decide ((500 : Int) < (n : Int)) = true := by simp; omega
    go_enter Tryd.func11, Tryd.ntmps11
    go_wp2
    go_ret
    exact ⟨by simp [nodeSmall, HDN.out, h1], below_one _ _⟩
end Go.Proofs.YthgbhaackihbjaaDoor
