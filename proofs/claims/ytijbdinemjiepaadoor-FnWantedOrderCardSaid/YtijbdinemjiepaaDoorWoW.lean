/- laws.wants: steps as the thin package takes them. -/
import Derived.Test.YtijbdinemjiepaaDoorWoV
namespace Go.Proofs.YtijbdinemjiepaaDoor
open Go.RowKit

def stpF (s : Stp) : List FV := [.lit (.int .u8 (s.kind : Nat)), .lit (.int .u8 (s.cid : Nat)), .lit (.int .i32 s.prio), .lit (.bool s.hv)]
/-- A step of the law's, with an identifier's number, as the thin package takes it. -/
def wntE (s : Stp) (k : Nat) : Wnt := ⟨s.kind % 4, ⟨identB k, s.prio, s.hv⟩⟩
/-- Steps, each with bytes of the call's own. -/
def WR (W : World) (B : Nat) : List Wnt → List Value → Prop
  | [], zs => zs = []
  | q :: t, zs => ∃ v ys, zs = .int .i64 (q.kind : Nat) :: v :: .int .i32 q.ent.prio :: .bool q.ent.hv :: ys ∧ W.ownsRow B 5 1 v q.ent.cid.length (u8s q.ent.cid) ∧ WR W B t ys
section
variable {W W' : World} {X : Nat → Prop} {B B' : Nat}
theorem WR.turn (h : Turn X W W') (ha : Away W X 5) : ∀ {l : List Wnt} {zs : List Value}, WR W B l zs → WR W' B l zs
  | [], _, h => h
  | _ :: _, _, ⟨v, ys, e1, h1, h2⟩ => ⟨v, ys, e1, h.own_away h1 ha, WR.turn h ha h2⟩
theorem WR.more (hB : B' ≤ B) : ∀ {l : List Wnt} {zs : List Value}, WR W B l zs → WR W B' l zs
  | [], _, h => h
  | _ :: _, _, ⟨v, ys, e1, h1, h2⟩ => ⟨v, ys, e1, own_more h1 hB, WR.more hB h2⟩
theorem WR.length : ∀ {l : List Wnt} {zs : List Value}, WR W B l zs → zs.length = l.length * 4
  | [], zs, h => by
    have h : zs = [] := h
    subst h
    rfl
  | e :: t, zs, ⟨v, ys, e1, _, h2⟩ => by
    have := WR.length h2
    rw [e1]
    simp only [List.length_cons]
    omega
theorem WR.snoc {q : Wnt} {v : Value} (hv : W.ownsRow B 5 1 v q.ent.cid.length (u8s q.ent.cid)) : ∀ {l : List Wnt} {zs : List Value}, WR W B l zs → WR W B (l ++ [q]) (zs ++ [.int .i64 (q.kind : Nat), v, .int .i32 q.ent.prio, .bool q.ent.hv])
  | [], zs, h => by
    have h : zs = [] := h
    subst h
    exact ⟨v, [], rfl, hv, rfl⟩
  | _ :: _, zs, ⟨v', ys, e1, h1, h2⟩ => ⟨v', ys ++ _, by rw [e1]; rfl, h1, WR.snoc hv h2⟩
theorem WR.append : ∀ {l m : List Wnt} {xs ys : List Value}, WR W B l xs → WR W B m ys → WR W B (l ++ m) (xs ++ ys)
  | [], _, xs, _, h, h2 => by
    have h : xs = [] := h
    subst h
    exact h2
  | _ :: _, _, xs, _, ⟨v, zs, e, h1, h2⟩, h3 => ⟨v, zs ++ _, by rw [e]; rfl, h1, WR.append h2 h3⟩
/-- The identifier of one is another. -/
theorem WR.set {q : Wnt} {c : List UInt8} {v : Value} (hv : W.ownsRow B 5 1 v c.length (u8s c)) : ∀ {l m : List Wnt} {zs : List Value}, WR W B (l ++ q :: m) zs → WR W B (l ++ ⟨q.kind, c, q.ent.prio, q.ent.hv⟩ :: m) (zs.set (4 * l.length + 1) v)
  | [], m, zs, ⟨v', ys, e1, h1, h2⟩ => ⟨v, ys, by rw [e1]; rfl, hv, h2⟩
  | x :: l, m, zs, ⟨v', ys, e1, h1, h2⟩ => ⟨v', ys.set (4 * l.length + 1) v, by rw [e1, List.length_cons, show 4 * (l.length + 1) + 1 = (4 * l.length + 1) + 1 + 1 + 1 + 1 by omega]; rfl, h1, WR.set hv h2⟩
theorem own_in {base : Nat} {v : Value} {l : List UInt8} (h : W.ownsRow base 5 1 v l.length (u8s l)) : FV.In W Bare (.bytes l) v := by
  obtain ⟨A, c, rfl, hc, hr⟩ := own_shape h
  exact ⟨A, c, rfl, hc, hr, fun _ _ _ hb => hb⟩
theorem WR.frow : ∀ {l : List Wnt} {zs : List Value}, WR W B l zs → FRow W Bare (l.flatMap wntF) zs
  | [], _, h => h
  | q :: t, zs, ⟨v, ys, e1, h1, h2⟩ => by
    rw [List.flatMap_cons, e1]
    exact ⟨_, _, rfl, ⟨rfl, rfl⟩, _, _, rfl, own_in h1, _, _, rfl, ⟨rfl, rfl⟩, _, _, rfl, ⟨rfl, rfl⟩, WR.frow h2⟩
end
/-- Steps in a row of the call's own. -/
structure Wants (w W : World) (v : Value) (l : List Wnt) (xs : List Value) : Prop where
  own : W.ownsRow w.heap.size 54 4 v l.length xs
  wr : WR W w.heap.size l xs
  bel : Below w.heap.size w W
theorem Wants.later {w W W' : World} {v : Value} {l : List Wnt} {xs : List Value} (h : Wants w W v l xs) (hb : Below W.heap.size W W') : Wants w W' v l xs := ⟨own_below h.own hb, h.wr.turn (Turn.of_below hb fun _ => False) (fun _ hk => hk.elim), below_then h.bel h.bel.size hb⟩
theorem Wants.app {w W W' : World} {v v' u : Value} {l : List Wnt} {xs : List Value} {q : Wnt} (h : Wants w W v l xs) (hu : W.ownsRow w.heap.size 5 1 u q.ent.cid.length (u8s q.ent.cid)) (ho : W'.ownsRow w.heap.size 54 4 v' (l.length + 1) (xs ++ [.int .i64 (q.kind : Nat), u, .int .i32 q.ent.prio, .bool q.ent.hv])) (hg : W.grownBy W' v.ownBlock) : Wants w W' v' (l ++ [q]) (xs ++ [.int .i64 (q.kind : Nat), u, .int .i32 q.ent.prio, .bool q.ent.hv]) := by
  refine ⟨?_, (WR.snoc hu h.wr).turn (Turn.of_grown hg (fun k hk => hk)) (away_own h.own (by decide)), h.bel.grown hg h.bel.size (fun k hk => own_base h.own k hk)⟩
  rw [List.length_append]
  exact ho
theorem Wants.rowF {w W : World} {v : Value} {l : List Wnt} {xs : List Value} (h : Wants w W v l xs) : RowF W 4 l.length (l.flatMap wntF) v := .of_own h.own h.wr.frow
theorem infoWant : (Tryd.prog.info? 54).map (fun i => (i.zero, i.size, i.bytes)) = some (some (.agg #[.int .i64 0, .slice none 0 0, .int .i32 0, .bool false]), 4, 40) := by kernel_rfl
set_option maxRecDepth 100000 in
set_option maxHeartbeats 8000000 in
theorem entry_any (s : Stp) (hc : s.cid < 256) (W : World) : Calls Tryd.prog 41 #[.agg #[.int .u8 (s.kind : Nat), .int .u8 (s.cid : Nat), .int .i32 s.prio, .bool s.hv]] W (PlainE W ⟨identB s.cid, s.prio, s.hv⟩) := by
  have hb := below_alloc (below_one W (.cells #[.int .u8 (s.kind : Nat), .int .u8 (s.cid : Nat), .int .i32 s.prio, .bool s.hv] 49)) (.cells #[.slice none 0 0, .int .i32 0, .bool false] 52)
  have HB := Lib.hid (below_drewN hb 1)
  have HI := Lib.hid (fun w => ident_any s.cid w hc)
  have HK := Lib.hid ((Blk.new W 49 #[.int .u8 (s.kind : Nat), .int .u8 (s.cid : Nat), .int .i32 s.prio, .bool s.hv]).alloc (.cells #[.slice none 0 0, .int .i32 0, .bool false] 52)).drew
  have hr := (Blk.new (W.alloc (.cells #[.int .u8 (s.kind : Nat), .int .u8 (s.cid : Nat), .int .i32 s.prio, .bool s.hv] 49)) 52 #[.slice none 0 0, .int .i32 0, .bool false]).drew
  rw [World.size_alloc] at hr
  have HR := Lib.hid hr
  have hne : W.heap.size ≠ W.heap.size + 1 := by omega
  clear hb hr
  go_enter Tryd.func41, Tryd.ntmps41
  go_wp2_with fail
  go_region_held3 (fun w' => w'.cell? ⟨W.heap.size, 1, none⟩ = some (.int .u8 (s.cid : Nat)) ∧ w'.cell? ⟨W.heap.size, 2, none⟩ = some (.int .i32 s.prio) ∧ w'.cell? ⟨W.heap.size, 3, none⟩ = some (.bool s.hv)) (first | exact ⟨HK.out.cell 1, HK.out.cell 2, HK.out.cell 3⟩ | exact ⟨KF.out.cell 1, KF.out.cell 2, KF.out.cell 3⟩) (first
    | (go_at_call 21; (with_reducible refine (HI.out _).mono ?_); rintro e w2 ⟨⟨v2, rfl, ho⟩, hb⟩; obtain ⟨A2, c2, rfl, hc2, _⟩ := own_shape ho; have HO := Lib.hid (own_more (base' := W.heap.size) ho HB.out.size); have hk := Lib.hid (bkeep hb HK.out); have hx := Lib.hid (bkeep hb HR.out); have hbb := Lib.hid (below_then HB.out HB.out.size hb); clear HK HR HB ho hb; have HK := hk; have HR := hx; have HB := hbb; clear hk hx hbb; have r0 : w2.cell? ⟨W.heap.size + 1, 0, none⟩ = some (.slice none 0 0) := HR.out.cell 0; have r1 : w2.cell? ⟨W.heap.size + 1, 1, none⟩ = some (.int .i32 0) := HR.out.cell 1; have r2 : w2.cell? ⟨W.heap.size + 1, 2, none⟩ = some (.bool false) := HR.out.cell 2; have rf := HR.out.frozen; have f0 := rf 0; have f1 := rf 1; have f2 := rf 2; clear rf; have KF := Lib.hid (blk_set_far (blk_set_far (blk_set_far HK.out (W.heap.size + 1) 0 hne (.slice A2 (identB s.cid).length c2)) (W.heap.size + 1) 1 hne (.int .i32 s.prio)) (W.heap.size + 1) 2 hne (.bool s.hv)))
    | fail)
  all_goals (go_wp2; refine bodyPost_ret (results_cell_row rfl _ _ _ _ _ _ _ rfl (fin3 HR.out _ _ _) Tryd.underlying52 rfl (by kernel_rfl)) rfl ?_; exact ⟨⟨_, rfl, own_turn1 HO.out (turn3 _ _ _ _ _) HR.out (by decide)⟩, ((HB.out.setCell (Nat.le_succ _) _).setCell (Nat.le_succ _) _).setCell (Nat.le_succ _) _⟩)
end Go.Proofs.YtijbdinemjiepaaDoor
