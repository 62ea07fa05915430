/- Words for the walks of Unmarshal of PBLink and PBNode: frames of worlds, where the errors lie, a field's end in the plain law. -/
import Derived.Deep.CutBlock
import Derived.Test.YthgbhaackihbjaaDoorPnF
import Derived.Test.YthgbhaackihbjaaDoorPoP
import Derived.Test.YthgbhaackihbjaaDoorPnG
import Derived.Test.YthgbhaackihbjaaDoorRdU
namespace Go.Proofs.YthgbhaackihbjaaDoor
open Go.RowKit

/-- Where the errors lie. -/
structure ErrsM (w : World) (a0 a1 a2 : Addr) : Prop where
  e0 : w.cell? ⟨0, 0, none⟩ = some (.iface 78 (.pointer (some a0)))
  e1 : w.cell? ⟨1, 0, none⟩ = some (.iface 78 (.pointer (some a1)))
  e2 : w.cell? ⟨2, 0, none⟩ = some (.iface 78 (.pointer (some a2)))
  lt : 4 ≤ w.heap.size
theorem ErrsM.past {w w' : World} {b : Nat} {a0 a1 a2 : Addr} (h : ErrsM w a0 a1 a2) (hg : w.grownBy w' (some b)) (h4 : 4 ≤ b) : ErrsM w' a0 a1 a2 := by
  have hl := h.lt
  have e : ∀ i, i < 4 → w'.cell? ⟨i, 0, none⟩ = w.cell? ⟨i, 0, none⟩ := fun i hi => World.cell?_of_block (hg.block i (by omega) (fun e => by injection e; omega))
  exact ⟨(e 0 (by omega)).trans h.e0, (e 1 (by omega)).trans h.e1, (e 2 (by omega)).trans h.e2, Nat.le_trans hl hg.size⟩
theorem ErrsM.below {w w' : World} {b : Nat} {a0 a1 a2 : Addr} (h : ErrsM w a0 a1 a2) (hb : Below b w w') (h4 : 4 ≤ b) : ErrsM w' a0 a1 a2 :=
  ⟨(hb.cell (by show 0 < b; omega)).trans h.e0, (hb.cell (by show 1 < b; omega)).trans h.e1, (hb.cell (by show 2 < b; omega)).trans h.e2, Nat.le_trans h.lt hb.size⟩
/-- What is new, and one block alone, has turned; then a row turns that is new or that block. -/
theorem only_row {a w w' : World} {b : Nat} {row : Option Nat} (h : a.grownBy w (some b)) (k : w.grownBy w' row) (hr : ∀ g, row = some g → g = b ∨ a.heap.size ≤ g) : a.grownBy w' (some b) :=
  ⟨k.os.trans h.os, k.tape.trans h.tape, k.output.trans h.output, Nat.le_trans h.size k.size, fun i hi hne => (k.block i (Nat.lt_of_lt_of_le hi h.size) (fun e => by
    rcases hr i e.symm with rfl | h2
    · exact hne rfl
    · omega)).trans (h.block i hi hne)⟩
theorem only_setb {a w : World} {b : Nat} (h : a.grownBy w (some b)) (i : Nat) (u : Value) : a.grownBy (w.setCell ⟨b, i, none⟩ u) (some b) := only_trans h (only_set w b i u)
theorem Reads.past {w w' : World} {B size n b : Nat} {A : Option Addr} {xs : List Value} (h : Reads w B size A n xs) (hg : w.grownBy w' (some b)) (hB : B ≤ w.heap.size) (hA : ∀ ad, A = some ad → ad.block ≠ b) : Reads w' B size A n xs :=
  ⟨h.1, fun hn => by
    obtain ⟨ad, e, hb, hc⟩ := h.2 hn
    exact ⟨ad, e, hb, fun j u hu => (World.cell?_of_block (hg.block _ (by rw [block_of_add]; omega) (fun e2 => hA ad e (by injection e2 with e2; rw [block_of_add] at e2; exact e2)))).trans (hc j u hu)⟩⟩
theorem byte_in {w : World} {B n g o i j p : Nat} {l : List UInt8} (hr : Reads w B 1 (some ⟨g, o, none⟩) n (u8s l)) (hp : i + j = p) (hn : p < n) : ∃ c : UInt8, (l.drop i)[j]? = some c ∧ w.cell? ⟨g, o + p, none⟩ = some (.int .u8 (c.toNat : Int)) ∧ c.toNat < 256 := by
  have hln : l.length = n := by have := hr.1; rw [u8s_length] at this; omega
  have hpl : p < l.length := by omega
  refine ⟨l[p], ?_, ?_, UInt8.toNat_lt _⟩
  · rw [List.getElem?_drop, hp, List.getElem?_eq_getElem hpl]
  · obtain ⟨b, o', e, _, hc⟩ := hr.lit hn
    injection e with e
    injection e with e1 e2
    subst e1 e2
    exact hc p _ (u8s_at _ _ hpl)
theorem shift_lt {j : Nat} (h : j ≤ 8) : ((7 * j : Nat) : Int) < 64 := by omega
theorem drop_at {α : Type} (l : List α) {i j p : Nat} (hp : i + j = p) : (l.drop i).drop (j + 1) = l.drop (p + 1) := by
  rw [List.drop_drop]; congr 1; omega
theorem torn2 {l : List UInt8} {i j p key : Nat} (h1 : vi (l.drop i) = some (key, j + 1)) (hp : i + j = p) (h2 : vi (l.drop (p + 1)) = none) : pt (l.drop i) = none := pt_none2 h1 (by rw [drop_at l hp]; exact h2)
section
variable {S : Type} {up : S → Fld → Option S} {P : Nat → List UInt8 → Prop} {O : List UInt8 → Prop} {gk i j p j2 p2 key x n : Nat} {st st' : S} {l : List UInt8} {R : Option S}
theorem num_end (hM : fd up gk st (l.drop i) = R) (hK : (l.drop i).length ≤ gk) (h1 : vi (l.drop i) = some (key, j + 1)) (hp : i + j = p) (hp2 : p + 1 + j2 = p2) (h2 : vi (l.drop (p + 1)) = some (x, j2 + 1)) (h8 : key % 8 = 0)
    (hks : ∀ t, pt (l.drop i) = some t → P key t.val ∧ O ((l.drop i).drop t.size)) (hup : up st ⟨key / 8, 0, x, [], j + 1 + (j2 + 1)⟩ = some st') : 0 < gk ∧ fd up (gk - 1) st' (l.drop (p2 + 1)) = R ∧ O (l.drop (p2 + 1)) ∧ (l.drop (p2 + 1)).length ≤ gk - 1 := by
  have hpt := pt_num h1 (by rw [drop_at l hp]; exact h2) h8
  have hs := pt_size hpt
  have hd : (l.drop i).drop (j + 1 + (j2 + 1)) = l.drop (p2 + 1) := by rw [List.drop_drop]; congr 1; omega
  have hk := (hks _ hpt).2
  simp only at hs
  have h0 : 0 < gk := by omega
  obtain ⟨f, rfl⟩ : ∃ f, gk = f + 1 := ⟨gk - 1, by omega⟩
  rw [fd_step hpt hup hK] at hM
  simp only [hd] at hM hk
  refine ⟨h0, hM, hk, ?_⟩
  rw [← hd, List.length_drop]
  omega
theorem bytes_pt (h1 : vi (l.drop i) = some (key, j + 1)) (hp : i + j = p) (hp2 : p + 1 + j2 = p2) (h2 : vi (l.drop (p + 1)) = some (x, j2 + 1)) (h8 : key % 8 = 2) (hln : l.length = n) (hx : p2 + 1 + x ≤ n) : pt (l.drop i) = some ⟨key / 8, 2, 0, (l.drop (p2 + 1)).take x, j + 1 + (j2 + 1) + x⟩ := by
  have hpt := pt_bytes h1 (by rw [drop_at l hp]; exact h2) h8 (by rw [List.length_drop]; omega)
  have he : ((l.drop i).drop (j + 1 + (j2 + 1))).take x = (l.drop (p2 + 1)).take x := by rw [List.drop_drop]; congr 2; omega
  rwa [he] at hpt
theorem bytes_end (hM : fd up gk st (l.drop i) = R) (hK : (l.drop i).length ≤ gk) (h1 : vi (l.drop i) = some (key, j + 1)) (hp : i + j = p) (hp2 : p + 1 + j2 = p2) (h2 : vi (l.drop (p + 1)) = some (x, j2 + 1)) (h8 : key % 8 = 2) (hln : l.length = n) (hx : p2 + 1 + x ≤ n)
    (hks : ∀ t, pt (l.drop i) = some t → P key t.val ∧ O ((l.drop i).drop t.size)) (hup : up st ⟨key / 8, 2, 0, (l.drop (p2 + 1)).take x, j + 1 + (j2 + 1) + x⟩ = some st') : 0 < gk ∧ fd up (gk - 1) st' (l.drop (p2 + 1 + x)) = R ∧ O (l.drop (p2 + 1 + x)) ∧ (l.drop (p2 + 1 + x)).length ≤ gk - 1 := by
  have hpt := bytes_pt h1 hp hp2 h2 h8 hln hx
  have hs := pt_size hpt
  have hd : (l.drop i).drop (j + 1 + (j2 + 1) + x) = l.drop (p2 + 1 + x) := by rw [List.drop_drop]; congr 1; omega
  have hk := (hks _ hpt).2
  simp only at hs
  have h0 : 0 < gk := by omega
  obtain ⟨f, rfl⟩ : ∃ f, gk = f + 1 := ⟨gk - 1, by omega⟩
  rw [fd_step hpt hup hK] at hM
  simp only [hd] at hM hk
  refine ⟨h0, hM, hk, ?_⟩
  rw [← hd, List.length_drop]
  omega
theorem bytes_bad (hM : fd up gk st (l.drop i) = R) (hK : (l.drop i).length ≤ gk) (h1 : vi (l.drop i) = some (key, j + 1)) (hp : i + j = p) (hp2 : p + 1 + j2 = p2) (h2 : vi (l.drop (p + 1)) = some (x, j2 + 1)) (h8 : key % 8 = 2) (hln : l.length = n) (hx : p2 + 1 + x ≤ n)
    (hup : up st ⟨key / 8, 2, 0, (l.drop (p2 + 1)).take x, j + 1 + (j2 + 1) + x⟩ = none) : R = none := by
  rw [← hM]
  exact fd_bad (bytes_pt h1 hp hp2 h2 h8 hln hx) hup hK
theorem bytes_long (hM : fd up gk st (l.drop i) = R) (hK : (l.drop i).length ≤ gk) (h1 : vi (l.drop i) = some (key, j + 1)) (hp : i + j = p) (hp2 : p + 1 + j2 = p2) (h2 : vi (l.drop (p + 1)) = some (x, j2 + 1)) (h8 : key % 8 = 2) (hln : l.length = n) (hx : ¬ p2 + 1 + x ≤ n) : R = none := by
  have hl1 := (vi_len h1).2
  have hl2 := (vi_len h2).2
  have hpt := pt_long h1 (by rw [drop_at l hp]; exact h2) h8 (by rw [List.length_drop] at hl1 hl2 ⊢; omega)
  rw [← hM]
  exact fd_torn hpt (by omega) hK
theorem wrong_end (hM : fd up gk st (l.drop i) = R) (hK : (l.drop i).length ≤ gk) (h1 : vi (l.drop i) = some (key, j + 1)) (hup : ∀ t, t.at_ = key / 8 → t.kind = key % 8 → up st t = none) : R = none := by
  have hl1 := (vi_len h1).2
  rw [← hM]
  cases hpt : pt (l.drop i) with
  | none => exact fd_torn hpt (by omega) hK
  | some t =>
    obtain ⟨a1, a2⟩ := pt_shape hpt h1
    exact fd_bad hpt (hup t a1 a2) hK
end
theorem ptr_world {w : World} {b : Nat} (hb : b < w.heap.size) (k : Nat) (p : Value) (o : Obj) : (w.setCell ⟨b, k, none⟩ p).alloc o = (w.alloc o).setCell ⟨b, k, none⟩ p := (World.setCell_alloc_past o b k p hb).symm
theorem step_append_zero {P : Program} {ops : Array Oper} {o : Oper} {a : Act} {w : World} {K : Act → World → Prop} {Q : Exit → Act → World → Prop} {E : Prop} (hgd : o.guard = none) (s x : Operand) (t : TypeId)
    (ho : o.op = .call { callee := .builtin .append, args := #[s, x], argTypes := #[t, t] }) (e : TypeId) (i : TypeInfo) (ht : P.underlying t = some (.slice e)) (hi : P.info? e = some i)
    (A A2 : Option Addr) (n cap m c : Nat) (hnc : n ≤ cap) (hs : a.eval s = .slice A n cap) (hx : a.eval x = .slice A2 m c) (hm : m = 0) (h : K (a.put o.dst (.slice A n cap)) w) :
    if Region.wanted o (yielded ops a.tmps) = true then Oper.wp P o a w K Q else E := by
  subst hm
  have hw : Region.wanted o (yielded ops a.tmps) = true := by simp [Region.wanted, hgd]
  rw [if_pos hw]
  have hrun : (Builtin.append_ #[t, t] o.type #[.slice A n cap, .slice A2 0 c]).run P w = .ok (.slice A n cap) w := by
    cases A <;> cases A2 <;> simp [Builtin.append_, run_underlying ht, sizeOf, typeInfo, hi, Builtin.lenOf, Builtin.firstCells, hnc, storeCells, loadCells, loadCellsFrom]
  unfold Oper.wp execOp
  simp only [ho, resolve, invoke, builtin, Sem.run_bind, Sem.run_pure, Result.andThen_ok, List.map_toArray, List.map_cons, List.map_nil, hs, hx, hrun]
  exact h
theorem reslice_zero {w : World} {base size n : Nat} {e : TypeId} {A : Option Addr} {c : Nat} {xs : List Value} (h : w.ownsRow base e size (.slice A n c) n xs) : w.ownsRow base e size (.slice A 0 c) 0 [] := by
  refine ⟨by simp, ?_⟩
  rcases h.2 with ⟨h1, rfl⟩ | ⟨g, cap, cur, h1, h2, h3, h4, h5, h6, h7⟩
  · exact .inl ⟨h1, rfl⟩
  · injection h1 with hA hn hc
    subst hA hc
    exact .inr ⟨g, c, cur, rfl, h2, h3, Nat.zero_le _, h5, h6, by simp⟩
theorem post_small {p x : Nat} (h : p + 1 + x < 9223372036854775808) : wrap64 ((p : Int) + 1 + x) = ((p + 1 + x : Nat) : Int) := by
  unfold wrap64; omega
theorem post_big {p x n : Nat} (h : ¬ p + 1 + x < 9223372036854775808) (hp : p < n) (hn : n ≤ 1000000) (hx : x < 2 ^ 63) : ∃ z : Int, wrap64 ((p : Int) + 1 + x) = z ∧ z < 0 := ⟨_, rfl, by unfold wrap64; omega⟩
theorem gt_of {p x n : Nat} (h : ¬ p + 1 + x ≤ n) : (n : Int) < ((p + 1 + x : Nat) : Int) := by omega
theorem take_len {l : List UInt8} {p x n : Nat} (hl : l.length = n) (hx : p + x ≤ n) : ((l.drop p).take x).length = x := by rw [List.length_take, List.length_drop]; omega
theorem le_of_sum {p x n : Nat} (h : p + 1 + x ≤ n) : x ≤ n - (p + 1) := by omega
theorem ne_of_sum {p x n c : Nat} (h : p + 1 + x ≤ n) (hx : 0 < x) (hc : n ≤ c) : ¬ c = p + 1 := by omega
theorem le_max {x : Nat} (h : x ≤ 1000000) : 0 + x ≤ maxLen := by unfold maxLen; omega
theorem le_47 {x : Nat} (h : x ≤ 1000000) : (0 + x) * 1 ≤ 140737488355328 := by omega
theorem sb1 {p x n c : Nat} (h : p + 1 + x ≤ n) (hc : n ≤ c) : (p : Int) + 1 + x ≤ c := by omega
theorem sb2 (p x : Nat) : 0 ≤ (p : Int) + 1 ∧ (p : Int) + 1 ≤ max ((p : Int) + 1 + x) 0 := by omega
theorem sb4 (p x : Nat) : (p : Int) + 1 ≤ (p : Int) + 1 + x := by omega
theorem sb3 (p x : Nat) : ((p : Int) + 1 + x).toNat = p + 1 + x := by omega
theorem eql_nil (W : World) (A : Option Addr) (l c : Nat) : (binOp .eql 22 (.slice A l c) (.slice none 0 0)).run Tryd.prog W = .ok (.bool A.isNone) W := by
  simp only [binOp]
  simp [run_equal_slice_nil W 22 5 A l c Tryd.underlying22]
theorem zero_data {l : List UInt8} {p x : Nat} (h : x = 0) : (l.drop p).take x = [] := by subst h; rfl
theorem fresh_ne {w : World} {base size n : Nat} {e : TypeId} {v : Value} {xs : List Value} (h : w.ownsRow base e size v n xs) : v.ownBlock ≠ some w.heap.size := fun e => by have := (h.lt _ e).2; omega
theorem own_far {w : World} {base size n : Nat} {e : TypeId} {v : Value} {xs : List Value} (h : w.ownsRow base e size v n xs) {p : Addr} (u : Value) (hp : v.ownBlock ≠ some p.block) : (w.setCell p u).ownsRow base e size v n xs :=
  h.kept (row := some p.block) (⟨rfl, rfl, rfl, by simp [World.setCell], fun i hi hne => Below.heap_setCell w p u i (fun e => hne (by rw [e]))⟩ : w.grownBy (w.setCell p u) (some p.block)) (.inr hp)
theorem own_own_ne {w : World} {base base' size size' n n' : Nat} {e e' : TypeId} {v v' : Value} {xs xs' : List Value} (h : w.ownsRow base e size v n xs) (h' : w.ownsRow base' e' size' v' n' xs') (hne : e ≠ e') : v.ownBlock = none ∨ v.ownBlock ≠ v'.ownBlock := by
  rcases h.2 with ⟨rfl, _⟩ | ⟨g, cap, cur, rfl, _, hh, _⟩
  · exact .inl rfl
  · refine .inr fun hv => ?_
    rcases h'.2 with ⟨rfl, _⟩ | ⟨g', cap', cur', rfl, _, hh', _⟩
    · simp [Value.ownBlock] at hv
    · have : g = g' := by simpa [Value.ownBlock] using hv
      subst this
      rw [hh] at hh'
      injection hh' with hh'
      injection hh' with _ ht
      exact hne ht
end Go.Proofs.YthgbhaackihbjaaDoor
