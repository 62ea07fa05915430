/- What the reference reads in a message: spec.Message. -/
import Derived.Laws.Rows
import Derived.Test.YtijbnmmeecmbjaaDoorUmL
namespace Go.Proofs.YtijbnmmeecmbjaaDoor
open Go.RowKit

def fsV (st : FSt) (vd vb : Value) : Value := .agg #[.int .i64 (st.ty.getD 0), vd, .int .u64 (st.fsize : Int), vb, .int .u64 (st.hash : Int), .int .u64 (st.fan : Int)]
/-- The local struct, the result's cell, the rows. -/
structure MRep (w : World) (lo bx br : Nat) (st : FSt) (vd vb : Value) : Prop where
  blk : Blk w bx 32 #[.int .i64 (st.ty.getD 0), vd, .int .u64 (st.fsize : Int), vb, .int .u64 (st.hash : Int), .int .u64 (st.fan : Int)]
  res : Blk w br 32 #[.int .i64 0, .slice none 0 0, .int .u64 0, .slice none 0 0, .int .u64 0, .int .u64 0]
  data : w.ownsRow lo 5 1 vd st.data.length (u8s st.data)
  sizes : w.ownsRow lo 25 1 vb st.sizes.length (u64s st.sizes)
  hx : bx < lo
  hr : br < bx
section
variable {w w' : World} {lo bx br : Nat} {st : FSt} {vd vb : Value}
theorem MRep.drewN (h : MRep w lo bx br st vd vb) (j : Nat) : MRep (w.drewN j) lo bx br st vd vb := ⟨h.blk, h.res, h.data, h.sizes, h.hx, h.hr⟩
theorem MRep.alloc (h : MRep w lo bx br st vd vb) (o : Obj) : MRep (w.alloc o) lo bx br st vd vb := ⟨h.blk.alloc o, h.res.alloc o, h.data.alloc o, h.sizes.alloc o, h.hx, h.hr⟩
theorem MRep.rest (h : MRep w lo bx br st vd vb) (i : Nat) (u : Value) : let W := w.setCell ⟨bx, i, none⟩ u
    Blk W bx 32 (#[.int .i64 (st.ty.getD 0), vd, .int .u64 (st.fsize : Int), vb, .int .u64 (st.hash : Int), .int .u64 (st.fan : Int)].setIfInBounds i u) ∧ Blk W br 32 #[.int .i64 0, .slice none 0 0, .int .u64 0, .slice none 0 0, .int .u64 0, .int .u64 0] ∧ W.ownsRow lo 5 1 vd st.data.length (u8s st.data) ∧ W.ownsRow lo 25 1 vb st.sizes.length (u64s st.sizes) := by
  have h1 := h.hx
  have h2 := h.hr
  exact ⟨h.blk.set_ i u, h.res.far (by show br ≠ bx; omega) u, own_far h.data u (fun e => by have := own_base h.data bx e; omega), own_far h.sizes u (fun e => by have := own_base h.sizes bx e; omega)⟩
theorem MRep.setTy (h : MRep w lo bx br st vd vb) (t : Int) : MRep (w.setCell ⟨bx, 0, none⟩ (.int .i64 t)) lo bx br { st with ty := some t } vd vb := by
  obtain ⟨a, b, c, d⟩ := h.rest 0 (.int .i64 t)
  exact ⟨a, b, c, d, h.hx, h.hr⟩
theorem MRep.setFsize (h : MRep w lo bx br st vd vb) (x : Nat) : MRep (w.setCell ⟨bx, 2, none⟩ (.int .u64 (x : Int))) lo bx br { st with fsize := x } vd vb := by
  obtain ⟨a, b, c, d⟩ := h.rest 2 (.int .u64 (x : Int))
  exact ⟨a, b, c, d, h.hx, h.hr⟩
theorem MRep.setHash (h : MRep w lo bx br st vd vb) (x : Nat) : MRep (w.setCell ⟨bx, 4, none⟩ (.int .u64 (x : Int))) lo bx br { st with hash := x } vd vb := by
  obtain ⟨a, b, c, d⟩ := h.rest 4 (.int .u64 (x : Int))
  exact ⟨a, b, c, d, h.hx, h.hr⟩
theorem MRep.setFan (h : MRep w lo bx br st vd vb) (x : Nat) : MRep (w.setCell ⟨bx, 5, none⟩ (.int .u64 (x : Int))) lo bx br { st with fan := x } vd vb := by
  obtain ⟨a, b, c, d⟩ := h.rest 5 (.int .u64 (x : Int))
  exact ⟨a, b, c, d, h.hx, h.hr⟩
theorem MRep.below (h : MRep w lo bx br st vd vb) (hb : Below w.heap.size w w') : MRep w' lo bx br st vd vb :=
  ⟨h.blk.below hb h.blk.lt, h.res.below hb h.res.lt, own_below h.data hb, own_below h.sizes hb, h.hx, h.hr⟩
theorem MRep.setData (h : MRep w lo bx br st vd vb) (hb : Below w.heap.size w w') {d : List UInt8} {v : Value} {n : Nat} (hown : w'.ownsRow lo 5 1 v n (u8s d)) (hn : n = d.length) : MRep (w'.setCell ⟨bx, 1, none⟩ v) lo bx br { st with data := d } v vb := by
  subst hn
  obtain ⟨a, b, c, d'⟩ := (h.below hb).rest 1 v
  have h1 := h.hx
  exact ⟨a, b, own_far hown v (fun e => by have := own_base hown bx e; omega), d', h.hx, h.hr⟩
theorem MRep.setSizes (h : MRep w lo bx br st vd vb) {d : List Nat} {v : Value} {n : Nat} (hown : w'.ownsRow lo 25 1 v n (u64s d)) (hn : n = d.length) (hg : w.grownBy w' vb.ownBlock) : MRep (w'.setCell ⟨bx, 3, none⟩ v) lo bx br { st with sizes := d } vd v := by
  subst hn
  have h1 := h.hx
  have h2 := h.hr
  have b1 := h.blk.grown hg fun e => own_blk_ne h.sizes h.blk (by decide) e.symm
  have b2 := h.res.grown hg fun e => own_blk_ne h.sizes h.res (by decide) e.symm
  have b3 : w'.ownsRow lo 5 1 vd st.data.length (u8s st.data) := h.data.kept hg (own_own_ne h.data h.sizes (by decide))
  exact ⟨b1.set_ 3 v, b2.far (by show br ≠ bx; omega) v, own_far b3 v (fun e => by have := own_base b3 bx e; omega), own_far hown v (fun e => by have := own_base hown bx e; omega), h1, h2⟩
end
/-- What Message hands back: whole where the plain law finds a message with its type. -/
structure MsgIs (w : World) (R : Option FSt) (e : Ending) (w' : World) : Prop where
  below : Below w.heap.size w w'
  ret : (∃ st vd vb, R = some st ∧ st.ty ≠ none ∧ e = .returned (.tuple #[fsV st vd vb, .bool true]) ∧ w'.ownsRow w.heap.size 5 1 vd st.data.length (u8s st.data) ∧ w'.ownsRow w.heap.size 25 1 vb st.sizes.length (u64s st.sizes)) ∨
    ((R = none ∨ ∃ st, R = some st ∧ st.ty = none) ∧ e = .returned (.tuple #[fsV FSt.zero (.slice none 0 0) (.slice none 0 0), .bool false]))
theorem pt_shape {xs : List UInt8} {key k : Nat} {t : Fld} (h : pt xs = some t) (hv : vi xs = some (key, k)) : t.at_ = key / 8 ∧ t.kind = key % 8 := by
  cases hw : vi (xs.drop k) with
  | none => rw [pt_none2 hv hw] at h; cases h
  | some q =>
    obtain ⟨n, m⟩ := q
    by_cases h8 : key % 8 = 0
    · rw [pt_num hv hw h8] at h
      obtain rfl := Option.some.inj h
      exact ⟨rfl, h8.symm⟩
    · by_cases h9 : key % 8 = 2
      · by_cases hn : n ≤ xs.length - k - m
        · rw [pt_bytes hv hw h9 hn] at h
          obtain rfl := Option.some.inj h
          exact ⟨rfl, h9.symm⟩
        · rw [pt_long hv hw h9 hn] at h; cases h
      · rw [pt_other hv hw h8 h9] at h; cases h
theorem tail_slice {w : World} {B n c k : Nat} {b o : Nat} {l : List UInt8} (h : Reads w B 1 (some ⟨b, o, none⟩) n (u8s l)) (hk : k ≤ n) (hnc : n ≤ c) : ∃ A2, (if c = k then some ⟨b, o, none⟩ else some ⟨b, o + k, none⟩ : Option Addr) = A2 ∧ Reads w B 1 A2 (n - k) (u8s (l.drop k)) := ⟨_, rfl, cut_slice h hk hnc⟩
theorem results_cell_then {P : Program} {fn : Func} {p u : Tmp} {ty : TypeId} (h : fn.results = #[.cell p ty, .tmp u]) (tmps : Array Value) (w : World) (g : Nat) (T : TypeId) (cs : Array Value) (fr : Nat × Nat) (d : TypeDesc)
    (hp : tmps.getD p undef = .pointer (some ⟨g, 0, none⟩)) (hg : w.heap[g]? = some (.cells cs T fr))
    (hu : P.underlying ty = some d) (hd : (match d with | .struct _ | .array _ _ => true | _ => false) = true) (hi : (P.info? ty).map (·.size) = some cs.size) :
    (results fn tmps).run P w = .ok (.tuple #[.agg cs, tmps.getD u undef]) w := by
  have hp' : tmps[p]?.getD undef = .pointer (some ⟨g, 0, none⟩) := by simpa using hp
  simp [results, h, hp', asAddr, run_loadVar_row w g T ty cs fr d hg hu hd hi]
theorem pt_val {xs : List UInt8} {t : Fld} (h : pt xs = some t) : t.val.length ≤ xs.length := by
  cases hv : vi xs with
  | none => rw [pt_none1 hv] at h; cases h
  | some p =>
    obtain ⟨key, k⟩ := p
    cases hw : vi (xs.drop k) with
    | none => rw [pt_none2 hv hw] at h; cases h
    | some q =>
      obtain ⟨n, m⟩ := q
      by_cases h8 : key % 8 = 0
      · rw [pt_num hv hw h8] at h
        obtain rfl := Option.some.inj h
        simp
      · by_cases h9 : key % 8 = 2
        · by_cases hn : n ≤ xs.length - k - m
          · rw [pt_bytes hv hw h9 hn] at h
            obtain rfl := Option.some.inj h
            simp; omega
          · rw [pt_long hv hw h9 hn] at h; cases h
        · rw [pt_other hv hw h8 h9] at h; cases h
theorem sizes_keep {w w' : World} {lo bx br : Nat} {st : FSt} {vd vb : Value} (h : MRep w lo bx br st vd vb) (hg : w.grownBy w' vb.ownBlock) : Blk w' bx 32 #[.int .i64 (st.ty.getD 0), vd, .int .u64 (st.fsize : Int), vb, .int .u64 (st.hash : Int), .int .u64 (st.fan : Int)] :=
  h.blk.grown hg fun e => own_blk_ne h.sizes h.blk (by decide) e.symm
theorem int_ne0 {z : Nat} (h : 2 ≤ z) : ((z : Int) == 0) = false := by simp; omega
theorem wrap32_i32w (n : Nat) : wrap32 (n : Int) = i32w n := by unfold wrap32 i32w; rfl
theorem wrap64_i32w (n : Nat) : wrap64 (i32w n) = i32w n := by unfold wrap64 i32w; omega
theorem i64wrap_i32w (n : Nat) : IntKind.i64.wrap (i32w n) = i32w n := by rw [IntKind.wrap_i64]; unfold i32w; omega
theorem up_pk2 {st : FSt} {V : List UInt8} {tn sz : Nat} {ds : List Nat} (h : pk V.length V = some ds) : up st ⟨34 / 8, 34 % 8, tn, V, sz⟩ = some { st with sizes := st.sizes ++ ds } := by simp [up, h]
theorem up_pk_none2 {st : FSt} {V : List UInt8} {tn sz : Nat} (h : pk V.length V = none) : up st ⟨34 / 8, 34 % 8, tn, V, sz⟩ = none := by simp [up, h]
theorem runOk_take {r : Nat} {l : List UInt8} (h : runOk r l = true) (n : Nat) : runOk r (l.take n) = true := by
  induction l generalizing r n with
  | nil => simp [runOk]
  | cons c t ih =>
    cases n with
    | zero => simp [runOk]
    | succ n =>
      rw [runOk] at h
      rw [List.take_succ_cons, runOk]
      split
      · rename_i hc; rw [if_pos hc] at h; exact ih h n
      · rename_i hc
        rw [if_neg hc] at h
        simp at h ⊢
        exact ⟨h.1, ih h.2 n⟩
theorem pt_more {xs : List UInt8} {t : Fld} (h : pt xs = some t) : (t.val = [] ∨ ∃ a n, t.val = (xs.drop a).take n) ∧ t.val.length ≤ t.size := by
  cases hv : vi xs with
  | none => rw [pt_none1 hv] at h; cases h
  | some p =>
    obtain ⟨key, k⟩ := p
    cases hw : vi (xs.drop k) with
    | none => rw [pt_none2 hv hw] at h; cases h
    | some q =>
      obtain ⟨n, m⟩ := q
      by_cases h8 : key % 8 = 0
      · rw [pt_num hv hw h8] at h
        obtain rfl := Option.some.inj h
        exact ⟨.inl rfl, by simp⟩
      · by_cases h9 : key % 8 = 2
        · by_cases hn : n ≤ xs.length - k - m
          · rw [pt_bytes hv hw h9 hn] at h
            obtain rfl := Option.some.inj h
            exact ⟨.inr ⟨_, _, rfl⟩, by simp; omega⟩
          · rw [pt_long hv hw h9 hn] at h; cases h
        · rw [pt_other hv hw h8 h9] at h; cases h
theorem pt_run {xs : List UInt8} {t : Fld} (h : pt xs = some t) (hr : runOk 0 xs = true) : runOk 0 t.val = true := by
  rcases (pt_more h).1 with e | ⟨a, n, e⟩
  · rw [e]; rfl
  · rw [e]; exact runOk_take (runOk_drop hr a) n
theorem pt_val_size {xs : List UInt8} {t : Fld} (h : pt xs = some t) : t.val.length ≤ t.size := (pt_more h).2
def fsCells (st : FSt) (vd vb : Value) : Array Value := #[.int .i64 (st.ty.getD 0), vd, .int .u64 (st.fsize : Int), vb, .int .u64 (st.hash : Int), .int .u64 (st.fan : Int)]
/-- The result's cell, written. -/
theorem six_set {w : World} {g : Nat} {c0 c1 c2 c3 c4 c5 : Value} (h : Blk w g 32 #[c0, c1, c2, c3, c4, c5]) (v0 v1 v2 v3 v4 v5 : Value) :
    Blk ((((((w.setCell ⟨g, 0, none⟩ v0).setCell ⟨g, 1, none⟩ v1).setCell ⟨g, 2, none⟩ v2).setCell ⟨g, 3, none⟩ v3).setCell ⟨g, 4, none⟩ v4).setCell ⟨g, 5, none⟩ v5) g 32 #[v0, v1, v2, v3, v4, v5] :=
  (((((h.set_ 0 v0).set_ 1 v1).set_ 2 v2).set_ 3 v3).set_ 4 v4).set_ 5 v5
theorem six_below {B : Nat} {a w : World} {g : Nat} (h : Below B a w) (hg : B ≤ g) (v0 v1 v2 v3 v4 v5 : Value) :
    Below B a ((((((w.setCell ⟨g, 0, none⟩ v0).setCell ⟨g, 1, none⟩ v1).setCell ⟨g, 2, none⟩ v2).setCell ⟨g, 3, none⟩ v3).setCell ⟨g, 4, none⟩ v4).setCell ⟨g, 5, none⟩ v5) :=
  (((((h.setCell hg v0).setCell hg v1).setCell hg v2).setCell hg v3).setCell hg v4).setCell hg v5
theorem own_six {w : World} {base size n g : Nat} {e : TypeId} {v : Value} {xs : List Value} (h : w.ownsRow base e size v n xs) (hg : v.ownBlock ≠ some g) (v0 v1 v2 v3 v4 v5 : Value) :
    ((((((w.setCell ⟨g, 0, none⟩ v0).setCell ⟨g, 1, none⟩ v1).setCell ⟨g, 2, none⟩ v2).setCell ⟨g, 3, none⟩ v3).setCell ⟨g, 4, none⟩ v4).setCell ⟨g, 5, none⟩ v5).ownsRow base e size v n xs :=
  own_far (own_far (own_far (own_far (own_far (own_far h v0 hg) v1 hg) v2 hg) v3 hg) v4 hg) v5 hg
set_option maxRecDepth 100000 in
set_option maxHeartbeats 40000000 in
theorem message_any (A : Option Addr) (n c B : Nat) (l : List UInt8) (w : World) (hr : Reads w B 1 A n (u8s l)) (hB : B ≤ w.heap.size) (hnc : n ≤ c) (hn : c ≤ 9223372036854775807) (hn2 : n ≤ 1000000) (hrun : runOk 0 l = true) (hkn : Kn l) :
    Calls Tryd.prog 10 #[.slice A n c] w (MsgIs w (ms l.length FSt.zero l)) := by
  have hln : l.length = n := by have := hr.1; rw [u8s_length] at this; omega
  obtain ⟨R, hR⟩ : ∃ R, ms l.length FSt.zero l = R := ⟨_, rfl⟩
  rw [hR]
  have HM0 : Hid (MRep ((w.alloc (.cells #[.int .i64 0, .slice none 0 0, .int .u64 0, .slice none 0 0, .int .u64 0, .int .u64 0] 32)).alloc (.cells #[.int .i64 0, .slice none 0 0, .int .u64 0, .slice none 0 0, .int .u64 0, .int .u64 0] 32)) (w.heap.size + 2) (w.heap.size + 1) w.heap.size FSt.zero (.slice none 0 0) (.slice none 0 0)) := by
    have h1 := Blk.new (w.alloc (.cells #[.int .i64 0, .slice none 0 0, .int .u64 0, .slice none 0 0, .int .u64 0, .int .u64 0] 32)) 32 #[.int .i64 0, .slice none 0 0, .int .u64 0, .slice none 0 0, .int .u64 0, .int .u64 0]
    rw [World.size_alloc] at h1
    exact ⟨h1, (Blk.new w _ _).alloc _, World.ownsRow_nil _ _ _ _, World.ownsRow_nil _ _ _ _, by omega, by omega⟩
  have HB0 := Lib.hid (below_alloc (below_one w (.cells #[.int .i64 0, .slice none 0 0, .int .u64 0, .slice none 0 0, .int .u64 0, .int .u64 0] 32)) (.cells #[.int .i64 0, .slice none 0 0, .int .u64 0, .slice none 0 0, .int .u64 0, .int .u64 0] 32))
  have HR := Lib.hid hr
  have HLN := Lib.hid hln
  have HRUN := Lib.hid hrun
  have HKN := Lib.hid hkn
  have HMS := Lib.hid hR
  clear hr hln hrun hkn hR
  go_enter Tryd.func10, Tryd.ntmps10
  go_wp2
  go_loopg [0, 5] l.length (fun k vs vt wr => ∃ (i : Nat) (A2 : Option Addr) (nx c2 : Nat) (st : FSt) (vd vb : Value) (tb : Bool), vs = .slice A2 nx c2 ∧ vt = .bool tb ∧ nx ≤ c2 ∧ c2 ≤ 9223372036854775807 ∧ Hid ((l.drop i).length = nx) ∧ Hid (Reads w B 1 A2 nx (u8s (l.drop i))) ∧ Hid (nx ≤ k) ∧ Hid (MRep wr (w.heap.size + 2) (w.heap.size + 1) w.heap.size st vd vb) ∧ Hid (Below w.heap.size w wr) ∧ Hid (ms k st (l.drop i) = R) ∧ Hid (Kn (l.drop i)) ∧ Hid (tb = st.ty.isSome) ∧ Hid (st.sizes.length ≤ i ∧ i ≤ n))
  case atStart => exact ⟨0, A, n, c, FSt.zero, _, _, false, rfl, rfl, hnc, hn, by rw [List.drop_zero]; exact HLN.out, by rw [List.drop_zero]; exact HR.out, by rw [HLN.out]; exact Nat.le_refl _, HM0.out, HB0.out, HMS.out, HKN.out, rfl, Nat.zero_le _, Nat.zero_le _⟩
  case round =>
    obtain ⟨i, A2, nx, c2, st, vd, vb, tb, rfl, rfl, hle, hc2, HL2, HR2, HK2, HM, HBL, HS, HKn, HTB, HSZ⟩ := hrel
    have hrun2 := Lib.hid (runOk_drop HRUN.out i)
    generalize hxs : l.drop i = xs at *
    have HXS := Lib.hid hxs
    clear hxs
    obtain ⟨Ad, cd, hvd, -, -⟩ := own_shape HM.out.data
    obtain ⟨Ab, cb, hvb, -, -⟩ := own_shape HM.out.sizes
    obtain ⟨nd, hnd⟩ : ∃ nd, st.data.length = nd := ⟨_, rfl⟩
    obtain ⟨nb, hnb⟩ : ∃ nb, st.sizes.length = nb := ⟨_, rfl⟩
    rw [hnd] at hvd
    rw [hnb] at hvb
    subst hvd hvb
    have HND := Lib.hid hnd
    have HNB := Lib.hid hnb
    clear hnd hnb
    have hbx := HM.out.blk.lt
    have hbr := HM.out.res.lt
    have kx0 := HM.out.blk.cell 0
    have kx1 := HM.out.blk.cell 1
    have kx2 := HM.out.blk.cell 2
    have kx3 := HM.out.blk.cell 3
    have kx4 := HM.out.blk.cell 4
    have kx5 := HM.out.blk.cell 5
    have fx := HM.out.blk.frozen
    have kr0 := HM.out.res.cell 0
    have kr1 := HM.out.res.cell 1
    have kr2 := HM.out.res.cell 2
    have kr3 := HM.out.res.cell 3
    have kr4 := HM.out.res.cell 4
    have kr5 := HM.out.res.cell 5
    have fr := HM.out.res.frozen
    generalize hty : st.ty.getD 0 = tyv at *
    have HTY := Lib.hid hty
    clear hty
    by_cases h0 : nx = 0
    · subst h0
      have hx : xs = [] := List.eq_nil_of_length_eq_zero HL2.out
      have HRS : Hid (R = some st) := by have h := HS.out; rw [hx, ms_nil] at h; exact h.symm
      clear hx
      cases tb with
      | false =>
        have HRN : Hid (R = none ∨ ∃ st, R = some st ∧ st.ty = none) := .inr ⟨st, HRS.out, by have h := HTB.out; cases e : st.ty with | none => rfl | some t => rw [e] at h; cases h⟩
        go_wp2
        (try simp only [Exit.inBlock, Exit.then])
        refine bodyPost_ret (results_cell_then rfl _ _ _ _ _ _ _ rfl (six_set HM.out.res (.int .i64 0) (.slice none 0 0) (.int .u64 0) (.slice none 0 0) (.int .u64 0) (.int .u64 0)) Tryd.underlying32 rfl (by kernel_rfl)) rfl ?_
        exact ⟨six_below HBL.out (Nat.le_refl _) _ _ _ _ _ _, .inr ⟨HRN.out, rfl⟩⟩
      | true =>
        have HTN : Hid (st.ty ≠ none) := fun e => by have h := HTB.out; rw [e] at h; cases h
        go_wp2
        (try simp only [Exit.inBlock, Exit.then])
        refine bodyPost_ret (results_cell_then rfl _ _ _ _ _ _ _ rfl (six_set HM.out.res (.int .i64 tyv) (.slice Ad nd cd) (.int .u64 (st.fsize : Int)) (.slice Ab nb cb) (.int .u64 (st.hash : Int)) (.int .u64 (st.fan : Int))) Tryd.underlying32 rfl (by kernel_rfl)) rfl ?_
        exact ⟨six_below HBL.out (Nat.le_refl _) _ _ _ _ _ _, .inl ⟨st, .slice Ad nd cd, .slice Ab nb cb, HRS.out, HTN.out, by rw [fsV, HTY.out]; rfl, own_six (own_more HM.out.data (by omega)) (fun e => by have := own_base HM.out.data _ e; omega) _ _ _ _ _ _, own_six (own_more HM.out.sizes (by omega)) (fun e => by have := own_base HM.out.sizes _ e; omega) _ _ _ _ _ _⟩⟩
    · have hpos : 0 < nx := by omega
      obtain ⟨b2, o2, rfl, -, -⟩ := HR2.out.lit hpos
      have hRr := (HR2.out.more hB).below HBL.out
      have HRr := Lib.hid hRr
      have HT := Lib.hid (pbTake_any (some ⟨b2, o2, none⟩) nx c2 w.heap.size xs wr hRr hle hc2 hrun2.out)
      clear hRr
      cases hp : pt xs with
      | none =>
        have HRN : Hid (R = none ∨ ∃ st, R = some st ∧ st.ty = none) := .inl (HS.out.symm.trans (ms_torn hp (by rw [HL2.out]; exact hpos) (by rw [HL2.out]; exact HK2.out)))
        replace HT : Hid (Calls Tryd.prog 28 #[.slice (some ⟨b2, o2, none⟩) nx c2] wr fun e w' => e = .returned (.tuple #[.int .u64 0, .int .i64 0, .int .u64 0, .slice none 0 0, .int .i64 0]) ∧ ∃ j, w' = wr.drewN j) := HT.out.mono (by
          rintro e w' ⟨⟨v, rfl, h | ⟨t, A3, c3, h, -⟩⟩, j3, rfl⟩
          · exact ⟨by rw [h.2]; rfl, _, rfl⟩
          · rw [hp] at h; cases h)
        clear hp
        go_wp2_with (first | (go_at_call 28; refine HT.out.mono ?_; clear HT; rintro e w1 ⟨rfl, j3, rfl⟩) | fail)
        (try simp only [Exit.inBlock, Exit.then])
        refine bodyPost_ret (results_cell_then rfl _ _ _ _ _ _ _ rfl (six_set (HM.out.res.drewN j3) (.int .i64 0) (.slice none 0 0) (.int .u64 0) (.slice none 0 0) (.int .u64 0) (.int .u64 0)) Tryd.underlying32 rfl (by kernel_rfl)) rfl ?_
        exact ⟨six_below (below_drewN HBL.out j3) (Nat.le_refl _) _ _ _ _ _ _, .inr ⟨HRN.out, rfl⟩⟩
      | some t =>
        have hts := pt_size hp
        rw [HL2.out] at hts
        obtain ⟨key, k, hv⟩ : ∃ key k, vi xs = some (key, k) := by
          cases e : vi xs with
          | none => rw [pt_none1 e] at hp; cases hp
          | some q => exact ⟨q.1, q.2, rfl⟩
        obtain ⟨hko, hks⟩ := HKn.out.key hv
        obtain ⟨sh1, sh2⟩ := pt_shape hp hv
        have HKN2 := Lib.hid (hks t hp)
        have hcs := tail_slice HR2.out hts.2 hle
        have HPT := Lib.hid hp
        replace HT : Hid (Calls Tryd.prog 28 #[.slice (some ⟨b2, o2, none⟩) nx c2] wr fun e w' => (∃ A3 n3 c3, e = .returned (.tuple #[.int .u64 (t.at_ : Nat), .int .i64 (t.kind : Nat), .int .u64 (t.num : Nat), .slice A3 n3 c3, .int .i64 (t.size : Nat)]) ∧ Hid (n3 ≤ c3 ∧ t.val.length = n3 ∧ Reads wr w.heap.size 1 A3 n3 (u8s t.val))) ∧ ∃ j, w' = wr.drewN j) := HT.out.mono (by
          rintro e w' ⟨⟨v, rfl, h | ⟨t', A3, c3, h, hv3, hle3, hr3⟩⟩, j3, rfl⟩
          · rw [hp] at h; cases h.1
          · rw [hp] at h
            obtain rfl := Option.some.inj h
            exact ⟨⟨A3, _, c3, by rw [hv3], hle3, rfl, hr3⟩, _, rfl⟩)
        have HUP : Hid (∀ st', up st t = some st' → ms (gk - 1) st' (xs.drop t.size) = R) := fun st' hu => by
          have h1 := HK2.out
          obtain ⟨f, rfl⟩ : ∃ f, gk = f + 1 := ⟨gk - 1, by omega⟩
          have h := HS.out
          rw [ms_step hp hu (by rw [HL2.out]; exact h1)] at h
          exact h
        have HUN : Hid (up st t = none → R = none) := fun hu => HS.out.symm.trans (ms_bad hp hu (by rw [HL2.out]; exact HK2.out))
        obtain ⟨A4, hA4, hr4⟩ := hcs
        have HR4 := Lib.hid hr4
        have HA4 := Lib.hid hA4
        have HXD : Hid (l.drop (i + t.size) = xs.drop t.size) := by show _ = _; rw [← HXS.out, List.drop_drop]
        clear hv hp hr4 hA4 hks
        have HVL : Hid (t.val.length ≤ 1000000) := by
          have h1 := pt_val HPT.out
          rw [HL2.out] at h1
          have h := HL2.out
          have h2 := congrArg List.length HXS.out
          rw [List.length_drop, HLN.out] at h2
          show _ ≤ _
          omega
        obtain ⟨ta, tk, tn, tv, tz⟩ := t
        simp only at sh1 sh2 hts HT HR4 HA4 HXD HKN2
        obtain ⟨hs1, hs2⟩ := hts
        have HSZ2 : Hid (i + 2 ≤ i + tz ∧ i + tz ≤ n) := by have h := HL2.out; have h2 := congrArg List.length HXS.out; rw [List.length_drop, HLN.out] at h2; show _ ∧ _; have := HSZ.out.2; omega
        rcases hko with rfl | rfl | rfl | rfl | rfl | rfl | rfl
        · obtain rfl : ta = 1 := sh1
          obtain rfl : tk = 0 := sh2
          by_cases hcz : c2 = tz
          · have hA := HA4.out
            rw [if_pos hcz] at hA
            subst hA
            have hczT := eq_true hcz
            clear hcz
            go_wp2_with (first | (go_at_call 28; refine HT.out.mono ?_; clear HT; rintro e w1 ⟨⟨A3, n3, c3, rfl, HV3⟩, j3, rfl⟩) | fail)
            rw [wrap32_i32w, wrap64_i32w]
            go_roundg (gk - 1)
            case measure => have := HK2.out; omega
            case rel => exact ⟨i + tz, _, nx - tz, c2 - tz, { st with ty := some (i32w tn) }, _, _, true, rfl, rfl, by omega, by omega, by show _ = _; rw [HXD.out, List.length_drop, HL2.out], by rw [HXD.out]; exact HR4.out, by have := HK2.out; show _ ≤ _; omega, (HM.out.drewN j3).setTy (i32w tn), (below_drewN HBL.out j3).setCell (Nat.le_of_lt (Nat.lt_succ_self _)) _, by rw [HXD.out]; exact HUP.out _ rfl, by rw [HXD.out]; exact HKN2.out, rfl, Nat.le_trans HSZ.out.1 (by have := HSZ2.out; omega), HSZ2.out.2⟩
          · have hA := HA4.out
            rw [if_neg hcz] at hA
            subst hA
            go_wp2_with (first | (go_at_call 28; refine HT.out.mono ?_; clear HT; rintro e w1 ⟨⟨A3, n3, c3, rfl, HV3⟩, j3, rfl⟩) | fail)
            rw [wrap32_i32w, wrap64_i32w]
            go_roundg (gk - 1)
            case measure => have := HK2.out; omega
            case rel => exact ⟨i + tz, _, nx - tz, c2 - tz, { st with ty := some (i32w tn) }, _, _, true, rfl, rfl, by omega, by omega, by show _ = _; rw [HXD.out, List.length_drop, HL2.out], by rw [HXD.out]; exact HR4.out, by have := HK2.out; show _ ≤ _; omega, (HM.out.drewN j3).setTy (i32w tn), (below_drewN HBL.out j3).setCell (Nat.le_of_lt (Nat.lt_succ_self _)) _, by rw [HXD.out]; exact HUP.out _ rfl, by rw [HXD.out]; exact HKN2.out, rfl, Nat.le_trans HSZ.out.1 (by have := HSZ2.out; omega), HSZ2.out.2⟩
        · obtain rfl : ta = 2 := sh1
          obtain rfl : tk = 2 := sh2
          obtain ⟨i0, hi, hz0, hz1, hz2⟩ := info_parts infoU8
          by_cases hcz : c2 = tz
          · have hA := HA4.out
            rw [if_pos hcz] at hA
            subst hA
            have hczT := eq_true hcz
            clear hcz
            go_wp2_with (first | (go_at_call 28; refine HT.out.mono ?_; clear HT; rintro e w1 ⟨⟨A3, n3, c3, rfl, HV3⟩, j3, rfl⟩; have HRV := Lib.hid ((HV3.out.2.2.drewN j3).alloc (Nat.le_of_lt hbr) (.cells #[] 5)); have HOV := Lib.hid (World.ownsRow_made (base := w.heap.size + 2) (e := 5) (size := 1) (wr.drewN j3) #[] 0 hbx (by unfold maxLen; omega) rfl); have HN3 : Hid (n3 ≤ 1000000) := HV3.out.2.1 ▸ HVL.out) | (at_builtin; refine wpList_append_any _ rfl (.tmp 57) (.tmp 58) 22 rfl (w.heap.size + 2) 5 i0 (.int .u8 0) 1 1 Tryd.underlying22 hi hz0 hz1 hz2 rfl (by decide) _ 0 _ rfl HOV.out w.heap.size A3 n3 c3 _ rfl HRV.out (u8s_one _) (le_max HN3.out) (le_47 HN3.out) (by simp; exact Nat.le_of_lt hbx) ?_; rintro v3 w3 hown3 hg3 - -; obtain ⟨A9, c9, rfl, -, -⟩ := own_shape hown3; have HO3 := Lib.hid hown3; have HB3 : Hid (Below (wr.drewN j3).heap.size (wr.drewN j3) w3) := (below_one (wr.drewN j3) (.cells #[] 5)).grown hg3 (by simp) (fun k e => by cases e; exact Nat.le_refl _); have k1 : w3.cell? ⟨w.heap.size + 1, 1, none⟩ = some (.slice Ad nd cd) := ((HM.out.drewN j3).below HB3.out).blk.cell 1; have k2 : w3.frozen? ⟨w.heap.size + 1, 1, none⟩ = false := ((HM.out.drewN j3).below HB3.out).blk.frozen 1; clear hown3 hg3) | fail)
            go_roundg (gk - 1)
            case measure => have := HK2.out; omega
            case rel => exact ⟨i + tz, _, nx - tz, c2 - tz, { st with data := tv }, _, _, tb, rfl, rfl, by omega, by omega, by show _ = _; rw [HXD.out, List.length_drop, HL2.out], by rw [HXD.out]; exact HR4.out, by have := HK2.out; show _ ≤ _; omega, (HM.out.drewN j3).setData HB3.out (d := tv) (n := n3) (by have h := HO3.out; rw [List.nil_append, Nat.zero_add] at h; exact h) HV3.out.2.1.symm, (below_then (below_drewN HBL.out j3) (Nat.le_of_lt hbr) HB3.out).setCell (Nat.le_of_lt (Nat.lt_succ_self _)) _, by rw [HXD.out]; exact HUP.out _ rfl, by rw [HXD.out]; exact HKN2.out, HTB.out, Nat.le_trans HSZ.out.1 (by have := HSZ2.out; omega), HSZ2.out.2⟩
          · have hA := HA4.out
            rw [if_neg hcz] at hA
            subst hA
            go_wp2_with (first | (go_at_call 28; refine HT.out.mono ?_; clear HT; rintro e w1 ⟨⟨A3, n3, c3, rfl, HV3⟩, j3, rfl⟩; have HRV := Lib.hid ((HV3.out.2.2.drewN j3).alloc (Nat.le_of_lt hbr) (.cells #[] 5)); have HOV := Lib.hid (World.ownsRow_made (base := w.heap.size + 2) (e := 5) (size := 1) (wr.drewN j3) #[] 0 hbx (by unfold maxLen; omega) rfl); have HN3 : Hid (n3 ≤ 1000000) := HV3.out.2.1 ▸ HVL.out) | (at_builtin; refine wpList_append_any _ rfl (.tmp 57) (.tmp 58) 22 rfl (w.heap.size + 2) 5 i0 (.int .u8 0) 1 1 Tryd.underlying22 hi hz0 hz1 hz2 rfl (by decide) _ 0 _ rfl HOV.out w.heap.size A3 n3 c3 _ rfl HRV.out (u8s_one _) (le_max HN3.out) (le_47 HN3.out) (by simp; exact Nat.le_of_lt hbx) ?_; rintro v3 w3 hown3 hg3 - -; obtain ⟨A9, c9, rfl, -, -⟩ := own_shape hown3; have HO3 := Lib.hid hown3; have HB3 : Hid (Below (wr.drewN j3).heap.size (wr.drewN j3) w3) := (below_one (wr.drewN j3) (.cells #[] 5)).grown hg3 (by simp) (fun k e => by cases e; exact Nat.le_refl _); have k1 : w3.cell? ⟨w.heap.size + 1, 1, none⟩ = some (.slice Ad nd cd) := ((HM.out.drewN j3).below HB3.out).blk.cell 1; have k2 : w3.frozen? ⟨w.heap.size + 1, 1, none⟩ = false := ((HM.out.drewN j3).below HB3.out).blk.frozen 1; clear hown3 hg3) | fail)
            go_roundg (gk - 1)
            case measure => have := HK2.out; omega
            case rel => exact ⟨i + tz, _, nx - tz, c2 - tz, { st with data := tv }, _, _, tb, rfl, rfl, by omega, by omega, by show _ = _; rw [HXD.out, List.length_drop, HL2.out], by rw [HXD.out]; exact HR4.out, by have := HK2.out; show _ ≤ _; omega, (HM.out.drewN j3).setData HB3.out (d := tv) (n := n3) (by have h := HO3.out; rw [List.nil_append, Nat.zero_add] at h; exact h) HV3.out.2.1.symm, (below_then (below_drewN HBL.out j3) (Nat.le_of_lt hbr) HB3.out).setCell (Nat.le_of_lt (Nat.lt_succ_self _)) _, by rw [HXD.out]; exact HUP.out _ rfl, by rw [HXD.out]; exact HKN2.out, HTB.out, Nat.le_trans HSZ.out.1 (by have := HSZ2.out; omega), HSZ2.out.2⟩
        · obtain rfl : ta = 3 := sh1
          obtain rfl : tk = 0 := sh2
          by_cases hcz : c2 = tz
          · have hA := HA4.out
            rw [if_pos hcz] at hA
            subst hA
            have hczT := eq_true hcz
            clear hcz
            go_wp2_with (first | (go_at_call 28; refine HT.out.mono ?_; clear HT; rintro e w1 ⟨⟨A3, n3, c3, rfl, HV3⟩, j3, rfl⟩) | fail)
            go_roundg (gk - 1)
            case measure => have := HK2.out; omega
            case rel => exact ⟨i + tz, _, nx - tz, c2 - tz, { st with fsize := tn }, _, _, tb, rfl, rfl, by omega, by omega, by show _ = _; rw [HXD.out, List.length_drop, HL2.out], by rw [HXD.out]; exact HR4.out, by have := HK2.out; show _ ≤ _; omega, (HM.out.drewN j3).setFsize tn, (below_drewN HBL.out j3).setCell (Nat.le_of_lt (Nat.lt_succ_self _)) _, by rw [HXD.out]; exact HUP.out _ rfl, by rw [HXD.out]; exact HKN2.out, HTB.out, Nat.le_trans HSZ.out.1 (by have := HSZ2.out; omega), HSZ2.out.2⟩
          · have hA := HA4.out
            rw [if_neg hcz] at hA
            subst hA
            go_wp2_with (first | (go_at_call 28; refine HT.out.mono ?_; clear HT; rintro e w1 ⟨⟨A3, n3, c3, rfl, HV3⟩, j3, rfl⟩) | fail)
            go_roundg (gk - 1)
            case measure => have := HK2.out; omega
            case rel => exact ⟨i + tz, _, nx - tz, c2 - tz, { st with fsize := tn }, _, _, tb, rfl, rfl, by omega, by omega, by show _ = _; rw [HXD.out, List.length_drop, HL2.out], by rw [HXD.out]; exact HR4.out, by have := HK2.out; show _ ≤ _; omega, (HM.out.drewN j3).setFsize tn, (below_drewN HBL.out j3).setCell (Nat.le_of_lt (Nat.lt_succ_self _)) _, by rw [HXD.out]; exact HUP.out _ rfl, by rw [HXD.out]; exact HKN2.out, HTB.out, Nat.le_trans HSZ.out.1 (by have := HSZ2.out; omega), HSZ2.out.2⟩
        · obtain rfl : ta = 4 := sh1
          obtain rfl : tk = 0 := sh2
          obtain ⟨i0, hi, hz0, hz1, hz2⟩ := info_parts infoU64
          have HOW : Hid (wr.ownsRow (w.heap.size + 2) 25 1 (.slice Ab nb cb) nb (u64s st.sizes)) := by have h := HM.out.sizes; rw [HNB.out] at h; exact h
          have HBN : Hid (nb ≤ 1000000) := by have h1 := HSZ.out; have h2 := HNB.out; show _ ≤ _; omega
          have hbn : nb + 1 ≤ 1000001 := Nat.succ_le_succ HBN.out
          have HB63 : Hid (nb + 1 ≤ maxLen) := by have h := HBN.out; show _ ≤ _; unfold maxLen; omega
          have HB47 : Hid ((nb + 1) * 8 ≤ 140737488355328) := by have h := HBN.out; show _ ≤ _; omega
          by_cases hcz : c2 = tz
          · have hA := HA4.out
            rw [if_pos hcz] at hA
            subst hA
            have hczT := eq_true hcz
            clear hcz
            go_wp2_with (first | (go_at_call 28; refine HT.out.mono ?_; clear HT; rintro e w1 ⟨⟨A3, n3, c3, rfl, HV3⟩, j3, rfl⟩) | (at_builtin; refine wpList_append_one rfl (.tmp 74) (.tmp 76) 30 rfl (w.heap.size + 2) i0 (.int .u64 0) 8 Tryd.underlying30 hi hz0 hz1 hz2 rfl _ nb _ rfl (W := wr.drewN j3) HOW.out rfl rfl HB63.out HB47.out hbx ?_; rintro v2 w2 hown2 hg2 hat2 -; obtain ⟨A9, c9, rfl, -, -⟩ := own_shape hown2; have HO2 := Lib.hid hown2; have HG2 : Hid ((wr.drewN j3).grownBy w2 (Value.slice Ab nb cb).ownBlock) := hg2; have k1 : w2.cell? ⟨w.heap.size + 1, 3, none⟩ = some (.slice Ab nb cb) := (sizes_keep (HM.out.drewN j3) HG2.out).cell 3; have k2 : w2.frozen? ⟨w.heap.size + 1, 3, none⟩ = false := (sizes_keep (HM.out.drewN j3) HG2.out).frozen 3; clear hown2 hg2 hat2) | fail)
            go_roundg (gk - 1)
            case measure => have := HK2.out; omega
            case rel => exact ⟨i + tz, _, nx - tz, c2 - tz, { st with sizes := st.sizes ++ [tn] }, _, _, tb, rfl, rfl, by omega, by omega, by show _ = _; rw [HXD.out, List.length_drop, HL2.out], by rw [HXD.out]; exact HR4.out, by have := HK2.out; show _ ≤ _; omega, (HM.out.drewN j3).setSizes (d := st.sizes ++ [tn]) (n := nb + 1) (by rw [← u64s_snoc]; exact HO2.out) (by rw [List.length_append, HNB.out]; rfl) HG2.out, ((below_drewN HBL.out j3).grown HG2.out (Nat.le_of_lt hbr) (fun k e => Nat.le_trans (Nat.le_add_right _ 2) (own_base HOW.out k e))).setCell (Nat.le_of_lt (Nat.lt_succ_self _)) _, by rw [HXD.out]; exact HUP.out _ rfl, by rw [HXD.out]; exact HKN2.out, HTB.out, by rw [List.length_append, HNB.out]; have h1 := HSZ.out; have h2 := HNB.out; have h3 := HSZ2.out; show nb + 1 ≤ _; omega, HSZ2.out.2⟩
          · have hA := HA4.out
            rw [if_neg hcz] at hA
            subst hA
            go_wp2_with (first | (go_at_call 28; refine HT.out.mono ?_; clear HT; rintro e w1 ⟨⟨A3, n3, c3, rfl, HV3⟩, j3, rfl⟩) | (at_builtin; refine wpList_append_one rfl (.tmp 74) (.tmp 76) 30 rfl (w.heap.size + 2) i0 (.int .u64 0) 8 Tryd.underlying30 hi hz0 hz1 hz2 rfl _ nb _ rfl (W := wr.drewN j3) HOW.out rfl rfl HB63.out HB47.out hbx ?_; rintro v2 w2 hown2 hg2 hat2 -; obtain ⟨A9, c9, rfl, -, -⟩ := own_shape hown2; have HO2 := Lib.hid hown2; have HG2 : Hid ((wr.drewN j3).grownBy w2 (Value.slice Ab nb cb).ownBlock) := hg2; have k1 : w2.cell? ⟨w.heap.size + 1, 3, none⟩ = some (.slice Ab nb cb) := (sizes_keep (HM.out.drewN j3) HG2.out).cell 3; have k2 : w2.frozen? ⟨w.heap.size + 1, 3, none⟩ = false := (sizes_keep (HM.out.drewN j3) HG2.out).frozen 3; clear hown2 hg2 hat2) | fail)
            go_roundg (gk - 1)
            case measure => have := HK2.out; omega
            case rel => exact ⟨i + tz, _, nx - tz, c2 - tz, { st with sizes := st.sizes ++ [tn] }, _, _, tb, rfl, rfl, by omega, by omega, by show _ = _; rw [HXD.out, List.length_drop, HL2.out], by rw [HXD.out]; exact HR4.out, by have := HK2.out; show _ ≤ _; omega, (HM.out.drewN j3).setSizes (d := st.sizes ++ [tn]) (n := nb + 1) (by rw [← u64s_snoc]; exact HO2.out) (by rw [List.length_append, HNB.out]; rfl) HG2.out, ((below_drewN HBL.out j3).grown HG2.out (Nat.le_of_lt hbr) (fun k e => Nat.le_trans (Nat.le_add_right _ 2) (own_base HOW.out k e))).setCell (Nat.le_of_lt (Nat.lt_succ_self _)) _, by rw [HXD.out]; exact HUP.out _ rfl, by rw [HXD.out]; exact HKN2.out, HTB.out, by rw [List.length_append, HNB.out]; have h1 := HSZ.out; have h2 := HNB.out; have h3 := HSZ2.out; show nb + 1 ≤ _; omega, HSZ2.out.2⟩
        · obtain rfl : ta = 4 := sh1
          obtain rfl : tk = 2 := sh2
          by_cases hcz : c2 = tz
          · have hA := HA4.out
            rw [if_pos hcz] at hA
            subst hA
            have hczT := eq_true hcz
            clear hcz
            obtain ⟨P, hP⟩ : ∃ P, pk tv.length tv = P := ⟨_, rfl⟩
            have HPN : Hid (P = none → R = none) := fun e => HUN.out (up_pk_none2 (hP.trans e))
            have HPS : Hid (∀ ds, P = some ds → ms (gk - 1) { st with sizes := st.sizes ++ ds } (xs.drop tz) = R) := fun ds e => HUP.out _ (up_pk2 (hP.trans e))
            have HP0 : Hid ((pk tv.length tv).map ([] ++ ·) = P) := by rw [hP]; cases P <;> rfl
            have HRT := Lib.hid (pt_run HPT.out hrun2.out)
            have HVS : Hid (tv.length ≤ tz) := pt_val_size HPT.out
            have htz : ((tz : Int) == 0) = false := int_ne0 hs1
            clear hP
            obtain ⟨go, hgo⟩ : ∃ go, go = gk := ⟨gk, rfl⟩
            subst hgo
            obtain ⟨wo, hwo⟩ : ∃ wo, wo = wr := ⟨wr, rfl⟩
            subst hwo
            go_wp2_with (first | (go_at_call 28; refine HT.out.mono ?_; clear HT; rintro e w1 ⟨⟨A3, n3, c3, rfl, HV3⟩, j3, rfl⟩) | fail)
            have HRV0 : Hid (Reads w w.heap.size 1 A3 n3 (u8s tv)) := HV3.out.2.2.keep fun p hp => (HBL.out.cell hp).symm
            go_loopg [9] n3 (fun k v9 wz => ∃ (f : Nat) (A5 : Option Addr) (n5 c5 : Nat) (vv : List UInt8) (ds : List Nat) (vb5 : Value), v9 = .slice A5 n5 c5 ∧ n5 ≤ c5 ∧ Hid (vv.length = n5) ∧ Hid (n5 ≤ k) ∧ Hid (n5 ≤ f) ∧ Hid (Reads w w.heap.size 1 A5 n5 (u8s vv)) ∧ Hid (runOk 0 vv = true) ∧ Hid ((pk f vv).map (ds ++ ·) = P) ∧ Hid (MRep wz (w.heap.size + 2) (w.heap.size + 1) w.heap.size { st with sizes := st.sizes ++ ds } (.slice Ad nd cd) vb5) ∧ Hid (Below w.heap.size w wz) ∧ Hid ((st.sizes ++ ds).length + n5 ≤ i + tz))
            case atStart => exact ⟨tv.length, A3, n3, c3, tv, [], .slice Ab nb cb, rfl, HV3.out.1, HV3.out.2.1, Nat.le_refl _, by rw [HV3.out.2.1]; exact Nat.le_refl _, HRV0.out, HRT.out, HP0.out, by rw [List.append_nil]; exact HM.out.drewN j3, below_drewN HBL.out j3, by rw [List.append_nil]; have h1 := HSZ.out.1; have h2 := HV3.out.2.1; have h3 := HVS.out; show _ ≤ _; omega⟩
            case round =>
              obtain ⟨f, A5, n5, c5, vv, ds, vb5, rfl, hle5, HL5, HK5, HF5, HR5, HU5, HP5, HM5, HB5, HS5⟩ := hrel
              have hbx5 := HM5.out.blk.lt
              have hbr5 := HM5.out.res.lt
              have kz3 := HM5.out.blk.cell 3
              have fz := HM5.out.blk.frozen
              have zr0 := HM5.out.res.cell 0
              have zr1 := HM5.out.res.cell 1
              have zr2 := HM5.out.res.cell 2
              have zr3 := HM5.out.res.cell 3
              have zr4 := HM5.out.res.cell 4
              have zr5 := HM5.out.res.cell 5
              have zfr := HM5.out.res.frozen
              by_cases h50 : n5 = 0
              · subst h50
                have hvv : vv = [] := List.eq_nil_of_length_eq_zero HL5.out
                have HPD : Hid (P = some ds) := by have h := HP5.out; rw [hvv, pk_nil] at h; show P = some ds; simpa using h.symm
                clear hvv
                go_wp2
                go_roundg (go - 1)
                case measure => have := HK2.out; omega
                case rel => exact ⟨i + tz, _, nx - tz, c2 - tz, _, _, _, tb, rfl, rfl, by omega, by omega, by show _ = _; rw [HXD.out, List.length_drop, HL2.out], by rw [HXD.out]; exact HR4.out, by have := HK2.out; show _ ≤ _; omega, HM5.out, HB5.out, by rw [HXD.out]; exact HPS.out ds HPD.out, by rw [HXD.out]; exact HKN2.out, HTB.out, HS5.out, HSZ2.out.2⟩
              · have hp5 : 0 < n5 := by omega
                obtain ⟨b5, o5, rfl, -, -⟩ := HR5.out.lit hp5
                have HRz := Lib.hid (HR5.out.below HB5.out)
                have HF := Lib.hid (readUvarint_any (some ⟨b5, o5, none⟩) n5 c5 w.heap.size vv wr HRz.out HU5.out)
                cases hv : vi vv with
                | none =>
                  rw [viRes_none hv] at HF
                  have HPE : Hid (P = none) := by have h := HP5.out; rw [pk_torn hv (by rw [HL5.out]; exact hp5) (by rw [HL5.out]; exact HF5.out)] at h; exact h.symm
                  have HRN : Hid (R = none ∨ ∃ st, R = some st ∧ st.ty = none) := .inl (HPN.out HPE.out)
                  clear hv
                  go_wp2_with (first | (go_at_call 27; refine HF.out.mono ?_; clear HF; rintro e w1 ⟨rfl, rfl⟩) | fail)
                  (try simp only [Exit.inBlock, Exit.then])
                  refine bodyPost_ret (results_cell_then rfl _ _ _ _ _ _ _ rfl (six_set HM5.out.res (.int .i64 0) (.slice none 0 0) (.int .u64 0) (.slice none 0 0) (.int .u64 0) (.int .u64 0)) Tryd.underlying32 rfl (by kernel_rfl)) rfl ?_
                  exact ⟨six_below HB5.out (Nat.le_refl _) _ _ _ _ _ _, .inr ⟨HRN.out, rfl⟩⟩
                | some q =>
                  obtain ⟨v, k⟩ := q
                  rw [viRes_some hv] at HF
                  obtain ⟨k1', k2'⟩ := vi_len hv
                  rw [HL5.out] at k2'
                  have HPX : Hid ((pk (f - 1) (vv.drop k)).map ((ds ++ [v]) ++ ·) = P) := by
                    have h := HP5.out
                    rw [pk_step hv (by rw [HL5.out]; exact HF5.out)] at h
                    show _ = _
                    rw [← h]
                    cases pk (f - 1) (vv.drop k) <;> simp
                  have HUX := Lib.hid (runOk_drop HU5.out k)
                  obtain ⟨A6, hA6, hr6⟩ := tail_slice HR5.out k2' hle5
                  have HR6 := Lib.hid hr6
                  obtain ⟨sl, hsl⟩ : ∃ sl, (st.sizes ++ ds).length = sl := ⟨_, rfl⟩
                  have HOW : Hid (wr.ownsRow (w.heap.size + 2) 25 1 vb5 (st.sizes ++ ds).length (u64s (st.sizes ++ ds))) := HM5.out.sizes
                  have hS5 := HS5.out
                  rw [hsl] at HOW hS5
                  have HSL := Lib.hid hsl
                  have HSS := Lib.hid hS5
                  have HB63 : Hid (sl + 1 ≤ maxLen) := by have h1 := HSZ2.out; show _ ≤ _; unfold maxLen; omega
                  have HB47 : Hid ((sl + 1) * 8 ≤ 140737488355328) := by have h1 := HSZ2.out; show _ ≤ _; omega
                  obtain ⟨Ab5, cb5, hvb5, -, -⟩ := own_shape HOW.out
                  subst hvb5
                  clear hv hr6 hsl hS5
                  obtain ⟨i0, hi, hz0, hz1, hz2⟩ := info_parts infoU64
                  by_cases hc5 : c5 = k
                  · rw [if_pos hc5] at hA6
                    subst hA6
                    have hc5T := eq_true hc5
                    clear hc5
                    go_wp2_with (first | (go_at_call 27; refine HF.out.mono ?_; clear HF; rintro e w1 ⟨rfl, rfl⟩) | (at_builtin; refine wpList_append_one rfl (.tmp 94) (.tmp 96) 30 rfl (w.heap.size + 2) i0 (.int .u64 0) 8 Tryd.underlying30 hi hz0 hz1 hz2 rfl _ sl _ rfl HOW.out rfl rfl HB63.out HB47.out hbx5 ?_; rintro v2 w2 hown2 hg2 hat2 -; obtain ⟨A9, c9, rfl, -, -⟩ := own_shape hown2; have HO2 := Lib.hid hown2; have HG2 := Lib.hid hg2; have q1 : w2.cell? ⟨w.heap.size + 1, 3, none⟩ = some (.slice Ab5 sl cb5) := (sizes_keep HM5.out HG2.out).cell 3; have q2 : w2.frozen? ⟨w.heap.size + 1, 3, none⟩ = false := (sizes_keep HM5.out HG2.out).frozen 3; clear hown2 hg2 hat2) | fail)
                    go_roundg (gk - 1)
                    case measure => have := HK5.out; omega
                    case rel => exact ⟨f - 1, _, n5 - k, c5 - k, vv.drop k, ds ++ [v], _, rfl, by omega, by show _ = _; rw [List.length_drop, HL5.out], by have := HK5.out; show _ ≤ _; omega, by have := HF5.out; show _ ≤ _; omega, HR6.out, HUX.out, HPX.out, HM5.out.setSizes (d := st.sizes ++ (ds ++ [v])) (n := sl + 1) (by rw [← List.append_assoc, ← u64s_snoc]; exact HO2.out) (by rw [← List.append_assoc, List.length_append, HSL.out]; rfl) HG2.out, (HB5.out.grown HG2.out (Nat.le_of_lt hbr5) (fun k e => Nat.le_trans (Nat.le_add_right _ 2) (own_base HOW.out k e))).setCell (Nat.le_of_lt (Nat.lt_succ_self _)) _, by rw [← List.append_assoc, List.length_append, HSL.out]; have := HSS.out; show sl + 1 + _ ≤ _; omega⟩
                  · rw [if_neg hc5] at hA6
                    subst hA6
                    go_wp2_with (first | (go_at_call 27; refine HF.out.mono ?_; clear HF; rintro e w1 ⟨rfl, rfl⟩) | (at_builtin; refine wpList_append_one rfl (.tmp 94) (.tmp 96) 30 rfl (w.heap.size + 2) i0 (.int .u64 0) 8 Tryd.underlying30 hi hz0 hz1 hz2 rfl _ sl _ rfl HOW.out rfl rfl HB63.out HB47.out hbx5 ?_; rintro v2 w2 hown2 hg2 hat2 -; obtain ⟨A9, c9, rfl, -, -⟩ := own_shape hown2; have HO2 := Lib.hid hown2; have HG2 := Lib.hid hg2; have q1 : w2.cell? ⟨w.heap.size + 1, 3, none⟩ = some (.slice Ab5 sl cb5) := (sizes_keep HM5.out HG2.out).cell 3; have q2 : w2.frozen? ⟨w.heap.size + 1, 3, none⟩ = false := (sizes_keep HM5.out HG2.out).frozen 3; clear hown2 hg2 hat2) | fail)
                    go_roundg (gk - 1)
                    case measure => have := HK5.out; omega
                    case rel => exact ⟨f - 1, _, n5 - k, c5 - k, vv.drop k, ds ++ [v], _, rfl, by omega, by show _ = _; rw [List.length_drop, HL5.out], by have := HK5.out; show _ ≤ _; omega, by have := HF5.out; show _ ≤ _; omega, HR6.out, HUX.out, HPX.out, HM5.out.setSizes (d := st.sizes ++ (ds ++ [v])) (n := sl + 1) (by rw [← List.append_assoc, ← u64s_snoc]; exact HO2.out) (by rw [← List.append_assoc, List.length_append, HSL.out]; rfl) HG2.out, (HB5.out.grown HG2.out (Nat.le_of_lt hbr5) (fun k e => Nat.le_trans (Nat.le_add_right _ 2) (own_base HOW.out k e))).setCell (Nat.le_of_lt (Nat.lt_succ_self _)) _, by rw [← List.append_assoc, List.length_append, HSL.out]; have := HSS.out; show sl + 1 + _ ≤ _; omega⟩
          · have hA := HA4.out
            rw [if_neg hcz] at hA
            subst hA
            obtain ⟨P, hP⟩ : ∃ P, pk tv.length tv = P := ⟨_, rfl⟩
            have HPN : Hid (P = none → R = none) := fun e => HUN.out (up_pk_none2 (hP.trans e))
            have HPS : Hid (∀ ds, P = some ds → ms (gk - 1) { st with sizes := st.sizes ++ ds } (xs.drop tz) = R) := fun ds e => HUP.out _ (up_pk2 (hP.trans e))
            have HP0 : Hid ((pk tv.length tv).map ([] ++ ·) = P) := by rw [hP]; cases P <;> rfl
            have HRT := Lib.hid (pt_run HPT.out hrun2.out)
            have HVS : Hid (tv.length ≤ tz) := pt_val_size HPT.out
            have htz : ((tz : Int) == 0) = false := int_ne0 hs1
            clear hP
            obtain ⟨go, hgo⟩ : ∃ go, go = gk := ⟨gk, rfl⟩
            subst hgo
            obtain ⟨wo, hwo⟩ : ∃ wo, wo = wr := ⟨wr, rfl⟩
            subst hwo
            go_wp2_with (first | (go_at_call 28; refine HT.out.mono ?_; clear HT; rintro e w1 ⟨⟨A3, n3, c3, rfl, HV3⟩, j3, rfl⟩) | fail)
            have HRV0 : Hid (Reads w w.heap.size 1 A3 n3 (u8s tv)) := HV3.out.2.2.keep fun p hp => (HBL.out.cell hp).symm
            go_loopg [9] n3 (fun k v9 wz => ∃ (f : Nat) (A5 : Option Addr) (n5 c5 : Nat) (vv : List UInt8) (ds : List Nat) (vb5 : Value), v9 = .slice A5 n5 c5 ∧ n5 ≤ c5 ∧ Hid (vv.length = n5) ∧ Hid (n5 ≤ k) ∧ Hid (n5 ≤ f) ∧ Hid (Reads w w.heap.size 1 A5 n5 (u8s vv)) ∧ Hid (runOk 0 vv = true) ∧ Hid ((pk f vv).map (ds ++ ·) = P) ∧ Hid (MRep wz (w.heap.size + 2) (w.heap.size + 1) w.heap.size { st with sizes := st.sizes ++ ds } (.slice Ad nd cd) vb5) ∧ Hid (Below w.heap.size w wz) ∧ Hid ((st.sizes ++ ds).length + n5 ≤ i + tz))
            case atStart => exact ⟨tv.length, A3, n3, c3, tv, [], .slice Ab nb cb, rfl, HV3.out.1, HV3.out.2.1, Nat.le_refl _, by rw [HV3.out.2.1]; exact Nat.le_refl _, HRV0.out, HRT.out, HP0.out, by rw [List.append_nil]; exact HM.out.drewN j3, below_drewN HBL.out j3, by rw [List.append_nil]; have h1 := HSZ.out.1; have h2 := HV3.out.2.1; have h3 := HVS.out; show _ ≤ _; omega⟩
            case round =>
              obtain ⟨f, A5, n5, c5, vv, ds, vb5, rfl, hle5, HL5, HK5, HF5, HR5, HU5, HP5, HM5, HB5, HS5⟩ := hrel
              have hbx5 := HM5.out.blk.lt
              have hbr5 := HM5.out.res.lt
              have kz3 := HM5.out.blk.cell 3
              have fz := HM5.out.blk.frozen
              have zr0 := HM5.out.res.cell 0
              have zr1 := HM5.out.res.cell 1
              have zr2 := HM5.out.res.cell 2
              have zr3 := HM5.out.res.cell 3
              have zr4 := HM5.out.res.cell 4
              have zr5 := HM5.out.res.cell 5
              have zfr := HM5.out.res.frozen
              by_cases h50 : n5 = 0
              · subst h50
                have hvv : vv = [] := List.eq_nil_of_length_eq_zero HL5.out
                have HPD : Hid (P = some ds) := by have h := HP5.out; rw [hvv, pk_nil] at h; show P = some ds; simpa using h.symm
                clear hvv
                go_wp2
                go_roundg (go - 1)
                case measure => have := HK2.out; omega
                case rel => exact ⟨i + tz, _, nx - tz, c2 - tz, _, _, _, tb, rfl, rfl, by omega, by omega, by show _ = _; rw [HXD.out, List.length_drop, HL2.out], by rw [HXD.out]; exact HR4.out, by have := HK2.out; show _ ≤ _; omega, HM5.out, HB5.out, by rw [HXD.out]; exact HPS.out ds HPD.out, by rw [HXD.out]; exact HKN2.out, HTB.out, HS5.out, HSZ2.out.2⟩
              · have hp5 : 0 < n5 := by omega
                obtain ⟨b5, o5, rfl, -, -⟩ := HR5.out.lit hp5
                have HRz := Lib.hid (HR5.out.below HB5.out)
                have HF := Lib.hid (readUvarint_any (some ⟨b5, o5, none⟩) n5 c5 w.heap.size vv wr HRz.out HU5.out)
                cases hv : vi vv with
                | none =>
                  rw [viRes_none hv] at HF
                  have HPE : Hid (P = none) := by have h := HP5.out; rw [pk_torn hv (by rw [HL5.out]; exact hp5) (by rw [HL5.out]; exact HF5.out)] at h; exact h.symm
                  have HRN : Hid (R = none ∨ ∃ st, R = some st ∧ st.ty = none) := .inl (HPN.out HPE.out)
                  clear hv
                  go_wp2_with (first | (go_at_call 27; refine HF.out.mono ?_; clear HF; rintro e w1 ⟨rfl, rfl⟩) | fail)
                  (try simp only [Exit.inBlock, Exit.then])
                  refine bodyPost_ret (results_cell_then rfl _ _ _ _ _ _ _ rfl (six_set HM5.out.res (.int .i64 0) (.slice none 0 0) (.int .u64 0) (.slice none 0 0) (.int .u64 0) (.int .u64 0)) Tryd.underlying32 rfl (by kernel_rfl)) rfl ?_
                  exact ⟨six_below HB5.out (Nat.le_refl _) _ _ _ _ _ _, .inr ⟨HRN.out, rfl⟩⟩
                | some q =>
                  obtain ⟨v, k⟩ := q
                  rw [viRes_some hv] at HF
                  obtain ⟨k1', k2'⟩ := vi_len hv
                  rw [HL5.out] at k2'
                  have HPX : Hid ((pk (f - 1) (vv.drop k)).map ((ds ++ [v]) ++ ·) = P) := by
                    have h := HP5.out
                    rw [pk_step hv (by rw [HL5.out]; exact HF5.out)] at h
                    show _ = _
                    rw [← h]
                    cases pk (f - 1) (vv.drop k) <;> simp
                  have HUX := Lib.hid (runOk_drop HU5.out k)
                  obtain ⟨A6, hA6, hr6⟩ := tail_slice HR5.out k2' hle5
                  have HR6 := Lib.hid hr6
                  obtain ⟨sl, hsl⟩ : ∃ sl, (st.sizes ++ ds).length = sl := ⟨_, rfl⟩
                  have HOW : Hid (wr.ownsRow (w.heap.size + 2) 25 1 vb5 (st.sizes ++ ds).length (u64s (st.sizes ++ ds))) := HM5.out.sizes
                  have hS5 := HS5.out
                  rw [hsl] at HOW hS5
                  have HSL := Lib.hid hsl
                  have HSS := Lib.hid hS5
                  have HB63 : Hid (sl + 1 ≤ maxLen) := by have h1 := HSZ2.out; show _ ≤ _; unfold maxLen; omega
                  have HB47 : Hid ((sl + 1) * 8 ≤ 140737488355328) := by have h1 := HSZ2.out; show _ ≤ _; omega
                  obtain ⟨Ab5, cb5, hvb5, -, -⟩ := own_shape HOW.out
                  subst hvb5
                  clear hv hr6 hsl hS5
                  obtain ⟨i0, hi, hz0, hz1, hz2⟩ := info_parts infoU64
                  by_cases hc5 : c5 = k
                  · rw [if_pos hc5] at hA6
                    subst hA6
                    have hc5T := eq_true hc5
                    clear hc5
                    go_wp2_with (first | (go_at_call 27; refine HF.out.mono ?_; clear HF; rintro e w1 ⟨rfl, rfl⟩) | (at_builtin; refine wpList_append_one rfl (.tmp 94) (.tmp 96) 30 rfl (w.heap.size + 2) i0 (.int .u64 0) 8 Tryd.underlying30 hi hz0 hz1 hz2 rfl _ sl _ rfl HOW.out rfl rfl HB63.out HB47.out hbx5 ?_; rintro v2 w2 hown2 hg2 hat2 -; obtain ⟨A9, c9, rfl, -, -⟩ := own_shape hown2; have HO2 := Lib.hid hown2; have HG2 := Lib.hid hg2; have q1 : w2.cell? ⟨w.heap.size + 1, 3, none⟩ = some (.slice Ab5 sl cb5) := (sizes_keep HM5.out HG2.out).cell 3; have q2 : w2.frozen? ⟨w.heap.size + 1, 3, none⟩ = false := (sizes_keep HM5.out HG2.out).frozen 3; clear hown2 hg2 hat2) | fail)
                    go_roundg (gk - 1)
                    case measure => have := HK5.out; omega
                    case rel => exact ⟨f - 1, _, n5 - k, c5 - k, vv.drop k, ds ++ [v], _, rfl, by omega, by show _ = _; rw [List.length_drop, HL5.out], by have := HK5.out; show _ ≤ _; omega, by have := HF5.out; show _ ≤ _; omega, HR6.out, HUX.out, HPX.out, HM5.out.setSizes (d := st.sizes ++ (ds ++ [v])) (n := sl + 1) (by rw [← List.append_assoc, ← u64s_snoc]; exact HO2.out) (by rw [← List.append_assoc, List.length_append, HSL.out]; rfl) HG2.out, (HB5.out.grown HG2.out (Nat.le_of_lt hbr5) (fun k e => Nat.le_trans (Nat.le_add_right _ 2) (own_base HOW.out k e))).setCell (Nat.le_of_lt (Nat.lt_succ_self _)) _, by rw [← List.append_assoc, List.length_append, HSL.out]; have := HSS.out; show sl + 1 + _ ≤ _; omega⟩
                  · rw [if_neg hc5] at hA6
                    subst hA6
                    go_wp2_with (first | (go_at_call 27; refine HF.out.mono ?_; clear HF; rintro e w1 ⟨rfl, rfl⟩) | (at_builtin; refine wpList_append_one rfl (.tmp 94) (.tmp 96) 30 rfl (w.heap.size + 2) i0 (.int .u64 0) 8 Tryd.underlying30 hi hz0 hz1 hz2 rfl _ sl _ rfl HOW.out rfl rfl HB63.out HB47.out hbx5 ?_; rintro v2 w2 hown2 hg2 hat2 -; obtain ⟨A9, c9, rfl, -, -⟩ := own_shape hown2; have HO2 := Lib.hid hown2; have HG2 := Lib.hid hg2; have q1 : w2.cell? ⟨w.heap.size + 1, 3, none⟩ = some (.slice Ab5 sl cb5) := (sizes_keep HM5.out HG2.out).cell 3; have q2 : w2.frozen? ⟨w.heap.size + 1, 3, none⟩ = false := (sizes_keep HM5.out HG2.out).frozen 3; clear hown2 hg2 hat2) | fail)
                    go_roundg (gk - 1)
                    case measure => have := HK5.out; omega
                    case rel => exact ⟨f - 1, _, n5 - k, c5 - k, vv.drop k, ds ++ [v], _, rfl, by omega, by show _ = _; rw [List.length_drop, HL5.out], by have := HK5.out; show _ ≤ _; omega, by have := HF5.out; show _ ≤ _; omega, HR6.out, HUX.out, HPX.out, HM5.out.setSizes (d := st.sizes ++ (ds ++ [v])) (n := sl + 1) (by rw [← List.append_assoc, ← u64s_snoc]; exact HO2.out) (by rw [← List.append_assoc, List.length_append, HSL.out]; rfl) HG2.out, (HB5.out.grown HG2.out (Nat.le_of_lt hbr5) (fun k e => Nat.le_trans (Nat.le_add_right _ 2) (own_base HOW.out k e))).setCell (Nat.le_of_lt (Nat.lt_succ_self _)) _, by rw [← List.append_assoc, List.length_append, HSL.out]; have := HSS.out; show sl + 1 + _ ≤ _; omega⟩
        · obtain rfl : ta = 5 := sh1
          obtain rfl : tk = 0 := sh2
          by_cases hcz : c2 = tz
          · have hA := HA4.out
            rw [if_pos hcz] at hA
            subst hA
            have hczT := eq_true hcz
            clear hcz
            go_wp2_with (first | (go_at_call 28; refine HT.out.mono ?_; clear HT; rintro e w1 ⟨⟨A3, n3, c3, rfl, HV3⟩, j3, rfl⟩) | fail)
            go_roundg (gk - 1)
            case measure => have := HK2.out; omega
            case rel => exact ⟨i + tz, _, nx - tz, c2 - tz, { st with hash := tn }, _, _, tb, rfl, rfl, by omega, by omega, by show _ = _; rw [HXD.out, List.length_drop, HL2.out], by rw [HXD.out]; exact HR4.out, by have := HK2.out; show _ ≤ _; omega, (HM.out.drewN j3).setHash tn, (below_drewN HBL.out j3).setCell (Nat.le_of_lt (Nat.lt_succ_self _)) _, by rw [HXD.out]; exact HUP.out _ rfl, by rw [HXD.out]; exact HKN2.out, HTB.out, Nat.le_trans HSZ.out.1 (by have := HSZ2.out; omega), HSZ2.out.2⟩
          · have hA := HA4.out
            rw [if_neg hcz] at hA
            subst hA
            go_wp2_with (first | (go_at_call 28; refine HT.out.mono ?_; clear HT; rintro e w1 ⟨⟨A3, n3, c3, rfl, HV3⟩, j3, rfl⟩) | fail)
            go_roundg (gk - 1)
            case measure => have := HK2.out; omega
            case rel => exact ⟨i + tz, _, nx - tz, c2 - tz, { st with hash := tn }, _, _, tb, rfl, rfl, by omega, by omega, by show _ = _; rw [HXD.out, List.length_drop, HL2.out], by rw [HXD.out]; exact HR4.out, by have := HK2.out; show _ ≤ _; omega, (HM.out.drewN j3).setHash tn, (below_drewN HBL.out j3).setCell (Nat.le_of_lt (Nat.lt_succ_self _)) _, by rw [HXD.out]; exact HUP.out _ rfl, by rw [HXD.out]; exact HKN2.out, HTB.out, Nat.le_trans HSZ.out.1 (by have := HSZ2.out; omega), HSZ2.out.2⟩
        · obtain rfl : ta = 6 := sh1
          obtain rfl : tk = 0 := sh2
          by_cases hcz : c2 = tz
          · have hA := HA4.out
            rw [if_pos hcz] at hA
            subst hA
            have hczT := eq_true hcz
            clear hcz
            go_wp2_with (first | (go_at_call 28; refine HT.out.mono ?_; clear HT; rintro e w1 ⟨⟨A3, n3, c3, rfl, HV3⟩, j3, rfl⟩) | fail)
            go_roundg (gk - 1)
            case measure => have := HK2.out; omega
            case rel => exact ⟨i + tz, _, nx - tz, c2 - tz, { st with fan := tn }, _, _, tb, rfl, rfl, by omega, by omega, by show _ = _; rw [HXD.out, List.length_drop, HL2.out], by rw [HXD.out]; exact HR4.out, by have := HK2.out; show _ ≤ _; omega, (HM.out.drewN j3).setFan tn, (below_drewN HBL.out j3).setCell (Nat.le_of_lt (Nat.lt_succ_self _)) _, by rw [HXD.out]; exact HUP.out _ rfl, by rw [HXD.out]; exact HKN2.out, HTB.out, Nat.le_trans HSZ.out.1 (by have := HSZ2.out; omega), HSZ2.out.2⟩
          · have hA := HA4.out
            rw [if_neg hcz] at hA
            subst hA
            go_wp2_with (first | (go_at_call 28; refine HT.out.mono ?_; clear HT; rintro e w1 ⟨⟨A3, n3, c3, rfl, HV3⟩, j3, rfl⟩) | fail)
            go_roundg (gk - 1)
            case measure => have := HK2.out; omega
            case rel => exact ⟨i + tz, _, nx - tz, c2 - tz, { st with fan := tn }, _, _, tb, rfl, rfl, by omega, by omega, by show _ = _; rw [HXD.out, List.length_drop, HL2.out], by rw [HXD.out]; exact HR4.out, by have := HK2.out; show _ ≤ _; omega, (HM.out.drewN j3).setFan tn, (below_drewN HBL.out j3).setCell (Nat.le_of_lt (Nat.lt_succ_self _)) _, by rw [HXD.out]; exact HUP.out _ rfl, by rw [HXD.out]; exact HKN2.out, HTB.out, Nat.le_trans HSZ.out.1 (by have := HSZ2.out; omega), HSZ2.out.2⟩
end Go.Proofs.YtijbnmmeecmbjaaDoor
