/- Two rows of steps, whose identifiers are laid anew. -/
import Derived.Test.YtijbdinemjiepaaDoorWoZ
namespace Go.Proofs.YtijbdinemjiepaaDoor
open Go.RowKit

theorem own_setAt {w : World} {base n size g : Nat} {e : TypeId} {v : Value} {xs : List Value} (h : w.ownsRow base e size v n xs) (hg : v.ownBlock = some g) (i : Nat) (u : Value) : (w.setCell ⟨g, i, none⟩ u).ownsRow base e size v n (xs.set i u) := by
  refine ⟨by rw [List.length_set]; exact h.1, ?_⟩
  rcases h.2 with ⟨rfl, _⟩ | ⟨g', cap, cur, rfl, hb, hh, hnc, hcm, hcs, ht⟩
  · simp [Value.ownBlock] at hg
  · have : g' = g := by simpa [Value.ownBlock] using hg
    subst this
    refine .inr ⟨g', cap, cur.setIfInBounds i u, rfl, hb, by simp [World.setCell, Array.getElem?_modify, hh], hnc, hcm, by simpa using hcs, ?_⟩
    rw [← ht, Array.toList_setIfInBounds, List.take_set]
/-- Both rows. -/
structure AB (w W : World) (va vb : Value) (la lb : List Wnt) (xa xb : List Value) : Prop where
  a : Wants w W va la xa
  b : Wants w W vb lb xb
  apart : Apart va vb
theorem AB.later {w W W' : World} {va vb : Value} {la lb : List Wnt} {xa xb : List Value} (h : AB w W va vb la lb xa xb) (hb : Below W.heap.size W W') : AB w W' va vb la lb xa xb := ⟨h.a.later hb, h.b.later hb, h.apart⟩
theorem AB.swap {w W : World} {va vb : Value} {la lb : List Wnt} {xa xb : List Value} (h : AB w W va vb la lb xa xb) : AB w W vb va lb la xb xa := ⟨h.b, h.a, h.apart.symm⟩
theorem AB.set {w W : World} {va vb : Value} {l m lb : List Wnt} {q : Wnt} {c : List UInt8} {xa xb : List Value} {v : Value} {g : Nat} (h : AB w W va vb (l ++ q :: m) lb xa xb) (hg : va.ownBlock = some g) (hv : W.ownsRow w.heap.size 5 1 v c.length (u8s c)) :
    AB w (W.setCell ⟨g, l.length * 4 + 1, none⟩ v) va vb (l ++ ⟨q.kind, ⟨c, q.ent.prio, q.ent.hv⟩⟩ :: m) lb (xa.set (l.length * 4 + 1) v) xb := by
  rw [Nat.mul_comm l.length 4]
  have ht : Turn (fun k => va.ownBlock = some k) W (W.setCell ⟨g, 4 * l.length + 1, none⟩ v) := Turn.of_grown (only_set W g _ v) (fun k hk => by injection hk with hk; rw [← hk]; exact hg)
  have ha : Away W (fun k => va.ownBlock = some k) 5 := away_own h.a.own (by decide)
  have hb : ∀ k, va.ownBlock = some k → w.heap.size ≤ k := fun k hk => own_base h.a.own k hk
  refine ⟨⟨?_, (WR.set hv h.a.wr).turn ht ha, h.a.bel.trans (ht.below h.a.bel.size hb)⟩, ⟨ht.own h.b.own (fun k hk e => h.apart k e hk), h.b.wr.turn ht ha, h.b.bel.trans (ht.below h.b.bel.size hb)⟩, h.apart⟩
  have h1 := own_setAt h.a.own hg (4 * l.length + 1) v
  rw [List.length_append, List.length_cons] at h1 ⊢
  exact h1
/-- The cell that is laid anew. -/
theorem AB.cell {w W : World} {va vb : Value} {l m lb : List Wnt} {q : Wnt} {xa xb : List Value} {g : Nat} (h : AB w W va vb (l ++ q :: m) lb xa xb) (hg : va.ownBlock = some g) : ∃ u, W.cell? ⟨g, l.length * 4 + 1, none⟩ = some u ∧ W.frozen? ⟨g, l.length * 4 + 1, none⟩ = false ∧ g < W.heap.size := by
  rw [Nat.mul_comm l.length 4]
  have hl := h.a.wr.length
  rw [List.length_append, List.length_cons] at hl
  have h1 := h.a.own.cells hg (4 * l.length + 1) xa[4 * l.length + 1] (List.getElem?_eq_getElem (by omega))
  rw [add_plain, Nat.zero_add] at h1
  exact ⟨_, h1, own_frozen h.a.own hg _, (h.a.own.lt g hg).2⟩
def evN (k : Nat) : Nat := k - k % 2
def odN (k : Nat) : Nat := k - k % 2 + 1
/-- Half-way: the first j are laid anew. -/
def half (f : Nat → Nat) (ss : List Stp) (j : Nat) : List Wnt := (ss.take j).map (fun s => wntE s (f s.cid)) ++ (ss.drop j).map (fun s => wntE s s.cid)
def newL (f : Nat → Nat) (ss : List Stp) : List Wnt := ss.map fun s => wntE s (f s.cid)
theorem half_zero (f : Nat → Nat) (ss : List Stp) : half f ss 0 = wantsE ss := rfl
theorem half_all (f : Nat → Nat) (ss : List Stp) (j : Nat) (h : ss.length ≤ j) : half f ss j = newL f ss := by unfold half newL; rw [List.take_of_length_le h, List.drop_of_length_le h]; simp
theorem half_at (f : Nat → Nat) (ss : List Stp) (j : Nat) (s : Stp) (h : ss[j]? = some s) :
    half f ss j = (ss.take j).map (fun s => wntE s (f s.cid)) ++ wntE s s.cid :: (ss.drop (j + 1)).map (fun s => wntE s s.cid) ∧ half f ss (j + 1) = (ss.take j).map (fun s => wntE s (f s.cid)) ++ wntE s (f s.cid) :: (ss.drop (j + 1)).map (fun s => wntE s s.cid) ∧ ((ss.take j).map (fun s => wntE s (f s.cid))).length = j := by
  obtain ⟨hj, rfl⟩ := List.getElem?_eq_some_iff.1 h
  refine ⟨?_, ?_, ?_⟩
  · unfold half
    rw [List.drop_eq_getElem_cons hj]
    rfl
  · unfold half
    rw [List.take_succ_eq_append_getElem hj, List.map_append, List.append_assoc]
    rfl
  · rw [List.length_map, List.length_take]
    omega
theorem half_len (f : Nat → Nat) (ss : List Stp) (j : Nat) : (half f ss j).length = ss.length := by
  unfold half
  rw [List.length_append, List.length_map, List.length_map, List.length_take, List.length_drop]
  omega
theorem ident_last (k : Nat) : (identB k).getLast? = some (UInt8.ofNat (k / 3)) := by
  have e : identB k = ((if k % 3 = 0 then [] else if k % 3 = 1 then [1, 112] else [1, 85]) ++ (18 :: 32 :: List.replicate 31 0)) ++ [UInt8.ofNat (k / 3)] := by
    unfold identB hsh
    rw [List.append_assoc]
    rfl
  rw [e, List.getLast?_concat]
theorem identB_ne {m n : Nat} (hm : m < 256) (hn : n < 256) (h : m ≠ n) : identB m ≠ identB n := by
  intro e
  have h1 := ident_last m
  rw [e, ident_last n] at h1
  injection h1 with h1
  have h2 := congrArg UInt8.toNat h1
  rw [UInt8.toNat_ofNat_of_lt' (by show _ < 256; omega), UInt8.toNat_ofNat_of_lt' (by show _ < 256; omega)] at h2
  have h3 : m % 3 ≠ n % 3 := by omega
  have hd : ∀ k : Nat, (identB k)[0]? = some (if k % 3 = 0 then 18 else 1) ∧ (identB k)[1]? = some (if k % 3 = 0 then 32 else if k % 3 = 1 then 112 else 85) := fun k => by
    unfold identB
    by_cases h0 : k % 3 = 0
    · simp [h0]
    · by_cases h1 : k % 3 = 1
      · simp [h1]
      · simp [h0, h1]
  obtain ⟨a0, a1⟩ := hd m
  obtain ⟨b0, b1⟩ := hd n
  rw [e, b1] at a1
  injection a1 with a1
  have hm3 : m % 3 = 0 ∨ m % 3 = 1 ∨ m % 3 = 2 := by omega
  have hn3 : n % 3 = 0 ∨ n % 3 = 1 ∨ n % 3 = 2 := by omega
  rcases hm3 with x | x | x <;> rcases hn3 with y | y | y <;> (simp [x, y] at a1) <;> omega
theorem parted_new (s1 s2 : List Stp) (h1 : ∀ s ∈ s1, s.cid < 256) (h2 : ∀ s ∈ s2, s.cid < 256) : Parted (newL evN s1) (newL odN s2) := by
  intro x hx y hy
  obtain ⟨a, ha, rfl⟩ := List.mem_map.1 hx
  obtain ⟨b, hb, rfl⟩ := List.mem_map.1 hy
  have k1 := h1 a ha
  have k2 := h2 b hb
  exact identB_ne (by unfold evN; omega) (by unfold odN; omega) (by unfold evN odN; omega)
end Go.Proofs.YtijbdinemjiepaaDoor
