/- Words for the walk of Unmarshal of the message Data of UnixFS. -/
import Derived.Deep.CutBlock
import Derived.Test.YtijbnmmeecmbjaaDoorUmF
import Derived.Test.YtijbnmmeecmbjaaDoorUmB
namespace Go.Proofs.YtijbnmmeecmbjaaDoor
open Go.RowKit

/-- Where the errors lie. -/
structure ErrsF (w : World) (a0 a1 a2 a3 : Addr) : Prop where
  e0 : w.cell? ⟨0, 0, none⟩ = some (.iface 90 (.pointer (some a0)))
  e1 : w.cell? ⟨1, 0, none⟩ = some (.iface 90 (.pointer (some a1)))
  e2 : w.cell? ⟨2, 0, none⟩ = some (.iface 90 (.pointer (some a2)))
  e3 : w.cell? ⟨3, 0, none⟩ = some (.iface 90 (.pointer (some a3)))
  lt : 5 ≤ w.heap.size
theorem ErrsF.below {w w' : World} {b : Nat} {a0 a1 a2 a3 : Addr} (h : ErrsF w a0 a1 a2 a3) (hb : Below b w w') (h5 : 5 ≤ b) : ErrsF w' a0 a1 a2 a3 :=
  ⟨(hb.cell (by show 0 < b; omega)).trans h.e0, (hb.cell (by show 1 < b; omega)).trans h.e1, (hb.cell (by show 2 < b; omega)).trans h.e2, (hb.cell (by show 3 < b; omega)).trans h.e3, Nat.le_trans h.lt hb.size⟩
/-- What Unmarshal leaves: an error just where the plain law finds none, or no type; else the struct tells it. -/
def UmIs (T : TypeId) (b : Nat) (R : Option FSt) (w : World) (e : Ending) (w' : World) : Prop :=
  Below b w w' ∧ (((R = none ∨ ∃ st, R = some st ∧ st.ty = none) ∧ ∃ a, e = .returned (.iface 90 (.pointer (some a)))) ∨
    ∃ st hf hv vt vd vz vb vh vf, R = some st ∧ st.ty ≠ none ∧ e = .returned .nilIface ∧ DRep w' T b hf hv st vt vd vz vb vh vf)
theorem UmIs.err {T : TypeId} {b : Nat} {R : Option FSt} {w w' : World} {a : Addr} (h : Below b w w') (hR : R = none) : UmIs T b R w (.returned (.iface 90 (.pointer (some a)))) w' :=
  ⟨h, .inl ⟨.inl hR, a, rfl⟩⟩
theorem byte_in {w : World} {B n g o i j p : Nat} {l : List UInt8} (hr : Reads w B 1 (some ⟨g, o, none⟩) n (u8s l)) (hp : i + j = p) (hn : p < n) : ∃ c : UInt8, (l.drop i)[j]? = some c ∧ w.cell? ⟨g, o + p, none⟩ = some (.int .u8 (c.toNat : Int)) ∧ c.toNat < 256 := by
  have hln : l.length = n := by have := hr.1; rw [u8s_length] at this; omega
  have hpl : p < l.length := by omega
  refine ⟨l[p], ?_, ?_, UInt8.toNat_lt _⟩
  · rw [List.getElem?_drop, hp, List.getElem?_eq_getElem hpl]
  · obtain ⟨b, o', e, _, hc⟩ := hr.lit hn
    injection e with e
    injection e with e1 e2
    subst e1 e2
    exact hc p _ (u8s_at _ _ hpl)
theorem shift_lt {j : Nat} (h : j ≤ 8) : ((7 * j : Nat) : Int) < 64 := by omega
theorem drop_at {α : Type} (l : List α) {i j p : Nat} (hp : i + j = p) : (l.drop i).drop (j + 1) = l.drop (p + 1) := by
  rw [List.drop_drop]; congr 1; omega
theorem torn2 {l : List UInt8} {i j p key : Nat} (h1 : vi (l.drop i) = some (key, j + 1)) (hp : i + j = p) (h2 : vi (l.drop (p + 1)) = none) : pt (l.drop i) = none := pt_none2 h1 (by rw [drop_at l hp]; exact h2)
theorem num_end {gk i j p j2 p2 key x : Nat} {st st' : FSt} {l : List UInt8} {R : Option FSt} (hM : ms gk st (l.drop i) = R) (hK : (l.drop i).length ≤ gk) (h1 : vi (l.drop i) = some (key, j + 1)) (hp : i + j = p) (hp2 : p + 1 + j2 = p2) (h2 : vi (l.drop (p + 1)) = some (x, j2 + 1)) (h8 : key % 8 = 0)
    (hks : ∀ t, pt (l.drop i) = some t → Kn ((l.drop i).drop t.size)) (hup : up st ⟨key / 8, 0, x, [], j + 1 + (j2 + 1)⟩ = some st') : 0 < gk ∧ ms (gk - 1) st' (l.drop (p2 + 1)) = R ∧ Kn (l.drop (p2 + 1)) ∧ (l.drop (p2 + 1)).length ≤ gk - 1 := by
  have hpt := pt_num h1 (by rw [drop_at l hp]; exact h2) h8
  have hs := pt_size hpt
  have hd : (l.drop i).drop (j + 1 + (j2 + 1)) = l.drop (p2 + 1) := by rw [List.drop_drop]; congr 1; omega
  have hk := hks _ hpt
  have h0 : 0 < gk := by omega
  obtain ⟨f, rfl⟩ : ∃ f, gk = f + 1 := ⟨gk - 1, by omega⟩
  rw [ms_step hpt hup hK] at hM
  simp only [hd] at hM hk
  refine ⟨h0, hM, hk, ?_⟩
  rw [← hd, List.length_drop]
  omega
theorem mark_or {hv : Nat} {t : Option Int} (h : hv = if t.isSome then 1 else 0) : bits .or .u64 (hv : Int) 1 = 1 := by
  have h1 : bits .or .u64 (hv : Int) 1 = ((hv ||| 1 : Nat) : Int) := u64_or_nat hv 1 (by split at h <;> omega) (by omega)
  rw [h1]
  split at h <;> subst h <;> rfl
theorem ptr_world {w : World} {b : Nat} (hb : b < w.heap.size) (k : Nat) (p : Value) (o : Obj) : (w.setCell ⟨b, k, none⟩ p).alloc o = (w.alloc o).setCell ⟨b, k, none⟩ p := (World.setCell_alloc_past o b k p hb).symm
theorem ty_world {w : World} {b hf : Nat} (hb : b < w.heap.size) (hh : hf < w.heap.size) (p v : Value) (o : Obj) : ((w.setCell ⟨b, 0, none⟩ p).setCell ⟨hf, 0, none⟩ v).alloc o = ((w.alloc o).setCell ⟨b, 0, none⟩ p).setCell ⟨hf, 0, none⟩ v := by
  rw [ptr_world (by simpa [World.setCell] using hh), ptr_world hb]
theorem bytes_end {gk i j p j2 p2 key x n : Nat} {st st' : FSt} {l : List UInt8} {R : Option FSt} (hM : ms gk st (l.drop i) = R) (hK : (l.drop i).length ≤ gk) (h1 : vi (l.drop i) = some (key, j + 1)) (hp : i + j = p) (hp2 : p + 1 + j2 = p2) (h2 : vi (l.drop (p + 1)) = some (x, j2 + 1)) (h8 : key % 8 = 2) (hln : l.length = n) (hx : p2 + 1 + x ≤ n)
    (hks : ∀ t, pt (l.drop i) = some t → Kn ((l.drop i).drop t.size)) (hup : up st ⟨key / 8, 2, 0, (l.drop (p2 + 1)).take x, j + 1 + (j2 + 1) + x⟩ = some st') : 0 < gk ∧ ms (gk - 1) st' (l.drop (p2 + 1 + x)) = R ∧ Kn (l.drop (p2 + 1 + x)) ∧ (l.drop (p2 + 1 + x)).length ≤ gk - 1 := by
  have hpt := pt_bytes h1 (by rw [drop_at l hp]; exact h2) h8 (by rw [List.length_drop]; omega)
  have he : ((l.drop i).drop (j + 1 + (j2 + 1))).take x = (l.drop (p2 + 1)).take x := by rw [List.drop_drop]; congr 2; omega
  rw [he] at hpt
  have hs := pt_size hpt
  have hd : (l.drop i).drop (j + 1 + (j2 + 1) + x) = l.drop (p2 + 1 + x) := by rw [List.drop_drop]; congr 1; omega
  have hk := hks _ hpt
  simp only at hs
  have h0 : 0 < gk := by omega
  obtain ⟨f, rfl⟩ : ∃ f, gk = f + 1 := ⟨gk - 1, by omega⟩
  rw [ms_step hpt hup hK] at hM
  simp only [hd] at hM hk
  refine ⟨h0, hM, hk, ?_⟩
  rw [← hd, List.length_drop]
  omega
theorem bytes_bad {gk i j p j2 p2 key x n : Nat} {st : FSt} {l : List UInt8} {R : Option FSt} (hM : ms gk st (l.drop i) = R) (hK : (l.drop i).length ≤ gk) (h1 : vi (l.drop i) = some (key, j + 1)) (hp : i + j = p) (hp2 : p + 1 + j2 = p2) (h2 : vi (l.drop (p + 1)) = some (x, j2 + 1)) (h8 : key % 8 = 2) (hln : l.length = n) (hx : p2 + 1 + x ≤ n)
    (hup : up st ⟨key / 8, 2, 0, (l.drop (p2 + 1)).take x, j + 1 + (j2 + 1) + x⟩ = none) : R = none := by
  have hpt := pt_bytes h1 (by rw [drop_at l hp]; exact h2) h8 (by rw [List.length_drop]; omega)
  have he : ((l.drop i).drop (j + 1 + (j2 + 1))).take x = (l.drop (p2 + 1)).take x := by rw [List.drop_drop]; congr 2; omega
  rw [he] at hpt
  rw [← hM]
  exact ms_bad hpt hup hK
theorem bytes_long {gk i j p j2 p2 key x n : Nat} {st : FSt} {l : List UInt8} {R : Option FSt} (hM : ms gk st (l.drop i) = R) (hK : (l.drop i).length ≤ gk) (h1 : vi (l.drop i) = some (key, j + 1)) (hp : i + j = p) (hp2 : p + 1 + j2 = p2) (h2 : vi (l.drop (p + 1)) = some (x, j2 + 1)) (h8 : key % 8 = 2) (hln : l.length = n) (hx : ¬ p2 + 1 + x ≤ n) : R = none := by
  have hl1 := (vi_len h1).2
  have hl2 := (vi_len h2).2
  have hpt := pt_long h1 (by rw [drop_at l hp]; exact h2) h8 (by rw [List.length_drop] at hl1 hl2 ⊢; omega)
  rw [← hM]
  exact ms_torn hpt (by omega) hK
theorem step_append_zero {P : Program} {ops : Array Oper} {o : Oper} {a : Act} {w : World} {K : Act → World → Prop} {Q : Exit → Act → World → Prop} {E : Prop} (hgd : o.guard = none) (s x : Operand) (t : TypeId)
    (ho : o.op = .call { callee := .builtin .append, args := #[s, x], argTypes := #[t, t] }) (e : TypeId) (i : TypeInfo) (ht : P.underlying t = some (.slice e)) (hi : P.info? e = some i)
    (A A2 : Option Addr) (n cap m c : Nat) (hnc : n ≤ cap) (hs : a.eval s = .slice A n cap) (hx : a.eval x = .slice A2 m c) (hm : m = 0) (h : K (a.put o.dst (.slice A n cap)) w) :
    if Region.wanted o (yielded ops a.tmps) = true then Oper.wp P o a w K Q else E := by
  subst hm
  have hw : Region.wanted o (yielded ops a.tmps) = true := by simp [Region.wanted, hgd]
  rw [if_pos hw]
  have hrun : (Builtin.append_ #[t, t] o.type #[.slice A n cap, .slice A2 0 c]).run P w = .ok (.slice A n cap) w := by
    cases A <;> cases A2 <;> simp [Builtin.append_, run_underlying ht, sizeOf, typeInfo, hi, Builtin.lenOf, Builtin.firstCells, hnc, storeCells, loadCells, loadCellsFrom]
  unfold Oper.wp execOp
  simp only [ho, resolve, invoke, builtin, Sem.run_bind, Sem.run_pure, Result.andThen_ok, List.map_toArray, List.map_cons, List.map_nil, hs, hx, hrun]
  exact h
theorem reslice_zero {w : World} {base size n : Nat} {e : TypeId} {A : Option Addr} {c : Nat} {xs : List Value} (h : w.ownsRow base e size (.slice A n c) n xs) : w.ownsRow base e size (.slice A 0 c) 0 [] := by
  refine ⟨by simp, ?_⟩
  rcases h.2 with ⟨h1, rfl⟩ | ⟨g, cap, cur, h1, h2, h3, h4, h5, h6, h7⟩
  · exact .inl ⟨h1, rfl⟩
  · injection h1 with hA hn hc
    subst hA hc
    exact .inr ⟨g, c, cur, rfl, h2, h3, Nat.zero_le _, h5, h6, by simp⟩
theorem post_small {p x : Nat} (h : p + 1 + x < 9223372036854775808) : wrap64 ((p : Int) + 1 + x) = ((p + 1 + x : Nat) : Int) := by
  unfold wrap64; omega
theorem post_big {p x n : Nat} (h : ¬ p + 1 + x < 9223372036854775808) (hp : p < n) (hn : n ≤ 1000000) (hx : x < 2 ^ 63) : ∃ z : Int, wrap64 ((p : Int) + 1 + x) = z ∧ z < 0 := ⟨_, rfl, by unfold wrap64; omega⟩
theorem gt_of {p x n : Nat} (h : ¬ p + 1 + x ≤ n) : (n : Int) < ((p + 1 + x : Nat) : Int) := by omega
theorem lt_of {p x n : Nat} (h : p + 1 + x ≤ n) (hn : n ≤ 1000000) : p + 1 + x < 9223372036854775808 := by omega
theorem take_len {l : List UInt8} {p x n : Nat} (hl : l.length = n) (hx : p + x ≤ n) : ((l.drop p).take x).length = x := by rw [List.length_take, List.length_drop]; omega
theorem le_of_sum {p x n : Nat} (h : p + 1 + x ≤ n) : x ≤ n - (p + 1) := by omega
theorem ne_of_sum {p x n c : Nat} (h : p + 1 + x ≤ n) (hx : 0 < x) (hc : n ≤ c) : ¬ c = p + 1 := by omega
theorem le_max {x : Nat} (h : x ≤ 1000000) : 0 + x ≤ maxLen := by unfold maxLen; omega
theorem le_47 {x : Nat} (h : x ≤ 1000000) : (0 + x) * 1 ≤ 140737488355328 := by omega
theorem DRep.data_far {w w' : World} {T : TypeId} {b hf hv : Nat} {st : FSt} {vt vd vz vb vh vf : Value} (h : DRep w T b hf hv st vt vd vz vb vh vf) (hT : TyOk T) (hg : w.grownBy w' vd.ownBlock) : Blk w' b T #[vt, vd, vz, vb, vh, vf, .slice none 0 0, .int .i32 0] :=
  h.blk.grown hg fun e => own_blk_ne h.data h.blk hT.ne.1 e.symm
theorem infoU8 : (Tryd.prog.info? 5).map (fun i => (i.zero, i.size, i.bytes)) = some (some (.int .u8 0), 1, 1) := by kernel_rfl
theorem infoU64 : (Tryd.prog.info? 25).map (fun i => (i.zero, i.size, i.bytes)) = some (some (.int .u64 0), 1, 8) := by kernel_rfl
theorem sb1 {p x n c : Nat} (h : p + 1 + x ≤ n) (hc : n ≤ c) : (p : Int) + 1 + x ≤ c := by omega
theorem sb2 (p x : Nat) : 0 ≤ (p : Int) + 1 ∧ (p : Int) + 1 ≤ max ((p : Int) + 1 + x) 0 := by omega
theorem sb4 (p x : Nat) : (p : Int) + 1 ≤ (p : Int) + 1 + x := by omega
theorem sb3 (p x : Nat) : ((p : Int) + 1 + x).toNat = p + 1 + x := by omega
theorem eql_nil (W : World) (A : Option Addr) (l c : Nat) : (binOp .eql 22 (.slice A l c) (.slice none 0 0)).run Tryd.prog W = .ok (.bool A.isNone) W := by
  simp only [binOp]
  simp [run_equal_slice_nil W 22 5 A l c Tryd.underlying22]
theorem zero_data {l : List UInt8} {p x : Nat} (h : x = 0) : (l.drop p).take x = [] := by subst h; rfl
theorem DRep.emptyData {w : World} {T : TypeId} {b hf hv : Nat} {st : FSt} {vt vd vz vb vh vf : Value} (h : DRep w T b hf hv st vt vd vz vb vh vf) (hT : TyOk T) {V : List UInt8} (hV : V = []) :
    DRep (((w.setCell ⟨b, 1, none⟩ (.slice none 0 0)).setCell ⟨b, 1, none⟩ (.slice (some ⟨w.heap.size, 0, none⟩) 0 0)).alloc (.cells #[] 5)).drew T b hf hv { st with data := V } vt (.slice (some ⟨w.heap.size, 0, none⟩) 0 0) vz vb vh vf := by
  subst hV
  have h1 := h.setData hT (d := []) (World.ownsRow_nil w (b + 1) 5 1) rfl (World.grownBy.refl _ _)
  have hsz : (w.setCell ⟨b, 1, none⟩ (.slice none 0 0)).heap.size = w.heap.size := by simp [World.setCell]
  have hlt : b < (w.setCell ⟨b, 1, none⟩ (.slice none 0 0)).heap.size := by rw [hsz]; exact h.blk.lt
  have h2 := h1.alloc (.cells #[] 5)
  have ho := World.ownsRow_made (base := b + 1) (e := 5) (size := 1) (w.setCell ⟨b, 1, none⟩ (.slice none 0 0)) #[] 0 hlt (by unfold maxLen; omega) rfl
  rw [hsz] at ho
  have h3 := h2.setData hT (d := []) ho rfl (World.grownBy.refl _ _)
  rw [← ptr_world hlt] at h3
  exact h3.drew
theorem DRep.sizes_far {w w' : World} {T : TypeId} {b hf hv : Nat} {st : FSt} {vt vd vz vb vh vf : Value} (h : DRep w T b hf hv st vt vd vz vb vh vf) (hT : TyOk T) (hg : w.grownBy w' vb.ownBlock) : Blk w' b T #[vt, vd, vz, vb, vh, vf, .slice none 0 0, .int .i32 0] :=
  h.blk.grown hg fun e => own_blk_ne h.sizes h.blk hT.ne.2.1 e.symm
theorem sz_max {s i n : Nat} (h : s ≤ i) (hi : i < n) (hn : n ≤ 1000000) : s + 1 ≤ maxLen := by unfold maxLen; omega
theorem sz_47 {s i n : Nat} (h : s ≤ i) (hi : i < n) (hn : n ≤ 1000000) : (s + 1) * 8 ≤ 140737488355328 := by omega
theorem u64s_snoc (l : List Nat) (x : Nat) : u64s l ++ [.int .u64 (x : Int)] = u64s (l ++ [x]) := by simp [u64s]
theorem pk_torn {f : Nat} {xs : List UInt8} (h : vi xs = none) (hx : 0 < xs.length) (hf : xs.length ≤ f) : pk f xs = none := by
  obtain ⟨f, rfl⟩ : ∃ g, f = g + 1 := ⟨f - 1, by omega⟩
  have hne : xs ≠ [] := fun e => by subst e; simp at hx
  simp [pk, h, hne]
theorem pk_step {f v k : Nat} {xs : List UInt8} (h : vi xs = some (v, k)) (hf : xs.length ≤ f) : pk f xs = (pk (f - 1) (xs.drop k)).map (v :: ·) := by
  have hs := vi_len h
  obtain ⟨f, rfl⟩ : ∃ g, f = g + 1 := ⟨f - 1, by omega⟩
  have hne : xs ≠ [] := fun e => by subst e; simp at hs; omega
  simp [pk, h, hne]
theorem pk_nil (f : Nat) : pk f [] = some [] := by cases f <;> simp [pk]
/-- Packed numbers from s on, x bytes: so many are read, up to q. -/
structure Pk (l : List UInt8) (s x q f : Nat) (ds : List Nat) (P : Option (List Nat)) : Prop where
  sq : s ≤ q
  fits : s + x ≤ l.length
  fuel : s + x - q ≤ f
  eq_ : (pk f ((l.drop q).take (s + x - q))).map (ds ++ ·) = P
theorem Pk.start {l : List UInt8} {s x : Nat} (h : s + x ≤ l.length) : Pk l s x s x [] (pk ((l.drop s).take x).length ((l.drop s).take x)) := by
  have hl : ((l.drop s).take x).length = x := by rw [List.length_take, List.length_drop]; omega
  refine ⟨Nat.le_refl _, h, by omega, ?_⟩
  rw [hl, Nat.add_sub_cancel_left]
  cases pk x ((l.drop s).take x) <;> rfl
theorem Pk.torn {l : List UInt8} {s x q f : Nat} {ds : List Nat} {P : Option (List Nat)} (h : Pk l s x q f ds P) (hq : q < s + x) (hv : vi (l.drop q) = none) : P = none := by
  have h1 := h.fits
  have h2 := h.fuel
  have hl : ((l.drop q).take (s + x - q)).length = s + x - q := by rw [List.length_take, List.length_drop]; omega
  have ht : vi ((l.drop q).take (s + x - q)) = none := by
    cases e : vi ((l.drop q).take (s + x - q)) with
    | none => rfl
    | some p => rw [vi_of_take (n := p.1) (k := p.2) e] at hv; cases hv
  rw [← h.eq_, pk_torn ht (by omega) (by omega)]; rfl
theorem Pk.over {l : List UInt8} {s x q f v k : Nat} {ds : List Nat} {P : Option (List Nat)} (h : Pk l s x q f ds P) (hq : q < s + x) (hv : vi (l.drop q) = some (v, k)) (ho : s + x < q + k) : P = none := by
  have h1 := h.fits
  have h2 := h.fuel
  have hl : ((l.drop q).take (s + x - q)).length = s + x - q := by rw [List.length_take, List.length_drop]; omega
  have ht : vi ((l.drop q).take (s + x - q)) = none := by
    cases e : vi ((l.drop q).take (s + x - q)) with
    | none => rfl
    | some p =>
      have h3 := vi_of_take (n := p.1) (k := p.2) e
      rw [h3] at hv
      obtain rfl := Prod.mk.inj (Option.some.inj hv) |>.2
      have h4 := (vi_len (n := p.1) (k := p.2) e).2
      omega
  rw [← h.eq_, pk_torn ht (by omega) (by omega)]; rfl
theorem Pk.next {l : List UInt8} {s x q f v k : Nat} {ds : List Nat} {P : Option (List Nat)} (h : Pk l s x q f ds P) (hv : vi (l.drop q) = some (v, k)) (ho : q + k ≤ s + x) : Pk l s x (q + k) (f - 1) (ds ++ [v]) P := by
  have h0 := h.sq
  have h1 := h.fits
  have h2 := h.fuel
  have hk := vi_len hv
  have hl : ((l.drop q).take (s + x - q)).length = s + x - q := by rw [List.length_take, List.length_drop]; omega
  have ht := vi_take hv (show k ≤ s + x - q by omega)
  have hd : ((l.drop q).take (s + x - q)).drop k = (l.drop (q + k)).take (s + x - (q + k)) := by
    rw [List.drop_take, List.drop_drop]; congr 1; omega
  refine ⟨by omega, h1, by omega, ?_⟩
  rw [← h.eq_, pk_step ht (by omega), hd]
  cases pk (f - 1) ((l.drop (q + k)).take (s + x - (q + k))) <;> simp
theorem Pk.done {l : List UInt8} {s x q f : Nat} {ds : List Nat} {P : Option (List Nat)} (h : Pk l s x q f ds P) (hq : q = s + x) : P = some ds := by
  have e := h.eq_
  rw [show s + x - q = 0 by omega, List.take_zero, pk_nil] at e
  simpa using e.symm
theorem up_pk {st : FSt} {V : List UInt8} {sz : Nat} {ds : List Nat} (h : pk V.length V = some ds) : up st ⟨34 / 8, 2, 0, V, sz⟩ = some { st with sizes := st.sizes ++ ds } := by simp [up, h]
theorem up_pk_none {st : FSt} {V : List UInt8} {sz : Nat} (h : pk V.length V = none) : up st ⟨34 / 8, 2, 0, V, sz⟩ = none := by simp [up, h]
theorem not_lt_of {p x q : Nat} (h : p + 1 + x ≤ q) : ¬ (q : Int) < (p : Int) + 1 + x := by omega
theorem lt_of_not {p x q : Nat} (h : ¬ p + 1 + x ≤ q) : (q : Int) < (p : Int) + 1 + x := by omega
theorem gt_cast {p x q : Nat} (h : p + 1 + x < q) : (p : Int) + 1 + x < (q : Int) := by omega
theorem not_gt_cast {p x : Nat} : ¬ ((p : Int) + 1 + x < ((p + 1 + x : Nat) : Int)) := by omega
theorem fresh_ne {w : World} {base size n : Nat} {e : TypeId} {v : Value} {xs : List Value} (h : w.ownsRow base e size v n xs) : v.ownBlock ≠ some w.heap.size := fun e => by have := (h.lt _ e).2; omega
end Go.Proofs.YtijbnmmeecmbjaaDoor
