/- The plain law of want lists: steps that name different identifiers may be made in any order. No program is spoken of here. -/
import Derived.Test.YtijbdinemjiepaaDoorFMap
namespace Go.Proofs.YtijbdinemjiepaaDoor

structure Stp where
  kind : Nat
  cid : Nat
  prio : Int
  hv : Bool
structure Enr where
  cid : List UInt8
  prio : Int
  hv : Bool
structure Wnt where
  kind : Nat
  ent : Enr
structure Tld where
  ok : Bool
  ent : Enr
  len : Nat
  all : List Enr
abbrev WMap := List UInt8 → Option (Int × Bool)
def noE : Enr := ⟨[], 0, false⟩
/-- Is the step so? -/
def okW (f : WMap) (q : Wnt) : Bool :=
  if q.kind = 0 then (match f q.ent.cid with | some (_, h) => h && !q.ent.hv | none => true)
  else if q.kind = 1 then (f q.ent.cid).isSome
  else if q.kind = 2 then (match f q.ent.cid with | some (_, h) => h || !q.ent.hv | none => false)
  else (f q.ent.cid).isSome
def stepW (f : WMap) (q : Wnt) : WMap :=
  if q.kind = 0 then (if okW f q then putF f q.ent.cid (q.ent.prio, q.ent.hv) else f)
  else if q.kind = 1 then (if okW f q then delF f q.ent.cid else f)
  else if q.kind = 2 then (if okW f q then delF f q.ent.cid else f)
  else f
def cntW (f : WMap) (c : Nat) (q : Wnt) : Nat :=
  if q.kind = 0 then (if okW f q then (if (f q.ent.cid).isSome then c else c + 1) else c)
  else if q.kind = 1 then (if okW f q then c - 1 else c)
  else if q.kind = 2 then (if okW f q then c - 1 else c)
  else c
def entW (f : WMap) (q : Wnt) : Enr :=
  if q.kind = 3 then (match f q.ent.cid with | some (p, h) => ⟨q.ent.cid, p, h⟩ | none => noE) else noE
def foundW (f : WMap) (k : List UInt8) : Option Enr := (f k).map fun x => ⟨k, x.1, x.2⟩
def allW (names : List (List UInt8)) (f : WMap) : List Enr := names.filterMap (foundW f)
def toldW (names : List (List UInt8)) (f : WMap) (c : Nat) (q : Wnt) : Tld := ⟨okW f q, entW f q, cntW f c q, allW names (stepW f q)⟩
structure StW where
  f : WMap
  c : Nat
  out : List Tld
def stW (names : List (List UInt8)) (s : StW) (q : Wnt) : StW := ⟨stepW s.f q, cntW s.f s.c q, s.out ++ [toldW names s.f s.c q]⟩
def runW (names : List (List UInt8)) (l : List Wnt) : StW := l.foldl (stW names) ⟨fun _ => none, 0, []⟩
def addN (ns : List (List UInt8)) (q : Wnt) : List (List UInt8) := if q.ent.cid ∈ ns then ns else ns ++ [q.ent.cid]
def namesW (l : List Wnt) : List (List UInt8) := l.foldl addN []
def sortW (ns : List (List UInt8)) : List (List UInt8) := ns.mergeSort fun x y => decide (x ≤ y)
def wantedW (l : List Wnt) : List Tld := (runW (sortW (namesW l)) l).out

/-! ### A step speaks of one key alone -/
theorem okW_agree {f g : WMap} {q : Wnt} (h : f q.ent.cid = g q.ent.cid) : okW f q = okW g q := by unfold okW; rw [h]
theorem stepW_agree {f g : WMap} {q : Wnt} {k : List UInt8} (h : f k = g k) : stepW f q k = stepW g q k := by
  by_cases hk : q.ent.cid = k
  · subst hk
    unfold stepW
    rw [okW_agree h]
    unfold putF delF
    split
    · split
      · simp
      · exact h
    · split
      · split
        · simp
        · exact h
      · split
        · split
          · simp
          · exact h
        · exact h
  · have : ∀ e : WMap, stepW e q k = e k := fun e => by
      unfold stepW putF delF
      repeat' split
      all_goals simp [hk]
    rw [this, this, h]
theorem stepW_other {f : WMap} {q : Wnt} {k : List UInt8} (hk : q.ent.cid ≠ k) : stepW f q k = f k := by
  unfold stepW putF delF
  repeat' split
  all_goals simp [hk]
theorem fold_agree {k : List UInt8} : ∀ (l : List Wnt) {f g : WMap}, f k = g k → l.foldl stepW f k = l.foldl stepW g k
  | [], _, _, h => h
  | _ :: t, _, _, h => fold_agree t (stepW_agree h)
theorem fold_other {k : List UInt8} : ∀ (l : List Wnt) {f : WMap}, (∀ q ∈ l, q.ent.cid ≠ k) → l.foldl stepW f k = f k
  | [], _, _ => rfl
  | q :: t, f, h => by
    rw [List.foldl_cons, fold_other t (fun x hx => h x (List.mem_cons_of_mem _ hx))]
    exact stepW_other (h q List.mem_cons_self)
/-- Lists of steps that share no key. -/
def Parted (a b : List Wnt) : Prop := ∀ x ∈ a, ∀ y ∈ b, x.ent.cid ≠ y.ent.cid
theorem fold_swap {a b : List Wnt} (h : Parted a b) : b.foldl stepW (a.foldl stepW fun _ => none) = a.foldl stepW (b.foldl stepW fun _ => none) := by
  funext k
  by_cases ha : ∃ x ∈ a, x.ent.cid = k
  · obtain ⟨x, hx, rfl⟩ := ha
    have hb : ∀ q ∈ b, q.ent.cid ≠ x.ent.cid := fun q hq e => h x hx q hq e.symm
    rw [fold_other b hb]
    exact fold_agree (f := fun _ => none) (g := b.foldl stepW fun _ => none) a (fold_other (f := fun _ => none) b hb).symm
  · have ha' : ∀ q ∈ a, q.ent.cid ≠ k := fun q hq e => ha ⟨q, hq, e⟩
    rw [fold_other a ha']
    exact fold_agree (f := a.foldl stepW fun _ => none) (g := fun _ => none) b (fold_other (f := fun _ => none) a ha')

/-! ### What a run holds -/
theorem run_f (names : List (List UInt8)) : ∀ (l : List Wnt) (s : StW), (l.foldl (stW names) s).f = l.foldl stepW s.f
  | [], _ => rfl
  | q :: t, s => run_f names t (stW names s q)
theorem run_len (names : List (List UInt8)) : ∀ (l : List Wnt) (s : StW), (l.foldl (stW names) s).out.length = s.out.length + l.length
  | [], _ => rfl
  | q :: t, s => by rw [List.foldl_cons, run_len names t]; simp [stW]; omega
theorem run_at (names : List (List UInt8)) : ∀ (l : List Wnt) (s : StW) (i : Nat) (q : Wnt), l[i]? = some q → ∃ c, (l.foldl (stW names) s).out[s.out.length + i]? = some (toldW names ((l.take i).foldl stepW s.f) c q)
  | q :: t, s, 0, x, h => by
    obtain rfl : q = x := by simpa using h
    have hl : ∀ (l : List Wnt) (s : StW) (j : Nat) (y : Tld), s.out[j]? = some y → (l.foldl (stW names) s).out[j]? = some y := by
      intro l
      induction l with
      | nil => intro s j y h; exact h
      | cons z l ih =>
        intro s j y h
        refine ih _ _ _ ?_
        show (s.out ++ _)[j]? = _
        rw [List.getElem?_append_left (List.getElem?_eq_some_iff.1 h).1]
        exact h
    refine ⟨s.c, hl t (stW names s q) _ _ ?_⟩
    show (s.out ++ [_])[s.out.length + 0]? = _
    simp
  | q :: t, s, i + 1, x, h => by
    obtain ⟨c, hc⟩ := run_at names t (stW names s q) i x (by simpa using h)
    refine ⟨c, ?_⟩
    have e : (stW names s q).out.length = s.out.length + 1 := by simp [stW]
    rw [e, show s.out.length + 1 + i = s.out.length + (i + 1) by omega] at hc
    exact hc
/-- How many keys of a list are in the map. -/
def cntK (U : List (List UInt8)) (f : WMap) : Nat := U.countP fun k => (f k).isSome
theorem cntK_other : ∀ {U : List (List UInt8)} {f g : WMap}, (∀ k ∈ U, (f k).isSome = (g k).isSome) → cntK U f = cntK U g := by
  intro U f g h
  unfold cntK
  exact List.countP_congr fun k hk => by rw [h k hk]
theorem cntK_put {U : List (List UInt8)} (hU : U.Nodup) {f : WMap} {x : List UInt8} (hx : x ∈ U) (a : Int × Bool) : cntK U (putF f x a) = if (f x).isSome then cntK U f else cntK U f + 1 := by
  induction U with
  | nil => cases hx
  | cons k U ih =>
    obtain ⟨h1, h2⟩ := List.nodup_cons.1 hU
    unfold cntK
    rw [List.countP_cons, List.countP_cons]
    by_cases e : x = k
    · subst e
      have h3 : cntK U (putF f x a) = cntK U f := cntK_other fun k hk => by unfold putF; rw [if_neg (fun e => h1 (by rw [e]; exact hk))]
      unfold cntK at h3
      rw [h3]
      have h4 : (putF f x a x).isSome = true := by simp [putF]
      rw [h4]
      cases hf : (f x).isSome <;> simp
    · have hxU : x ∈ U := by
        rcases List.mem_cons.1 hx with h | h
        · exact absurd h e
        · exact h
      have h3 := ih h2 hxU
      unfold cntK at h3
      rw [h3]
      have h4 : putF f x a k = f k := by unfold putF; rw [if_neg e]
      rw [h4]
      split <;> omega
theorem cntK_del {U : List (List UInt8)} (hU : U.Nodup) {f : WMap} {x : List UInt8} (hx : x ∈ U) (hs : (f x).isSome = true) : cntK U (delF f x) + 1 = cntK U f := by
  induction U with
  | nil => cases hx
  | cons k U ih =>
    obtain ⟨h1, h2⟩ := List.nodup_cons.1 hU
    unfold cntK
    rw [List.countP_cons, List.countP_cons]
    by_cases e : x = k
    · subst e
      have h3 : cntK U (delF f x) = cntK U f := cntK_other fun k hk => by unfold delF; rw [if_neg (fun e => h1 (by rw [e]; exact hk))]
      unfold cntK at h3
      rw [h3]
      have h4 : (delF f x x).isSome = false := by simp [delF]
      rw [h4, hs]
      simp
    · have hxU : x ∈ U := by
        rcases List.mem_cons.1 hx with h | h
        · exact absurd h e
        · exact h
      have h3 := ih h2 hxU
      unfold cntK at h3
      have h4 : delF f x k = f k := by unfold delF; rw [if_neg e]
      rw [h4]
      omega
theorem cntW_eq {U : List (List UInt8)} (hU : U.Nodup) {f : WMap} {q : Wnt} (hq : q.ent.cid ∈ U) {c : Nat} (hc : c = cntK U f) : cntW f c q = cntK U (stepW f q) := by
  have hd : okW f q = true → (q.kind = 1 ∨ q.kind = 2) → (f q.ent.cid).isSome = true := fun ho hk => by
    unfold okW at ho
    rcases hk with hk | hk
    · rw [if_neg (by omega), if_pos hk] at ho
      exact ho
    · rw [if_neg (by omega), if_neg (by omega), if_pos hk] at ho
      split at ho
      · rename_i h; rw [h]; rfl
      · cases ho
  unfold cntW stepW
  split
  · split
    · rw [cntK_put hU hq, hc]
    · exact hc
  · split
    · split
      · rename_i h
        have := cntK_del hU hq (hd h (.inl ‹_›))
        omega
      · exact hc
    · split
      · split
        · rename_i h
          have := cntK_del hU hq (hd h (.inr ‹_›))
          omega
        · exact hc
      · exact hc
theorem run_c {U : List (List UInt8)} (hU : U.Nodup) (names : List (List UInt8)) : ∀ (l : List Wnt) (s : StW), (∀ q ∈ l, q.ent.cid ∈ U) → s.c = cntK U s.f → (l.foldl (stW names) s).c = cntK U (l.foldl (stW names) s).f
  | [], _, _, h => h
  | q :: t, s, hq, h => run_c hU names t (stW names s q) (fun x hx => hq x (List.mem_cons_of_mem _ hx)) (cntW_eq hU (hq q List.mem_cons_self) h)
/-- What the last step tells is told of the end. -/
theorem run_last (names : List (List UInt8)) (l : List Wnt) (s : StW) (hl : l ≠ []) : ∃ ok ent, (l.foldl (stW names) s).out.getLast? = some ⟨ok, ent, (l.foldl (stW names) s).c, allW names (l.foldl (stW names) s).f⟩ := by
  obtain ⟨t, q, rfl⟩ : ∃ t q, l = t ++ [q] := ⟨_, _, (List.dropLast_concat_getLast hl).symm⟩
  rw [List.foldl_append]
  refine ⟨okW (t.foldl (stW names) s).f q, entW (t.foldl (stW names) s).f q, ?_⟩
  show (List.getLast? (_ ++ [_])) = _
  rw [List.getLast?_concat]
  rfl

/-! ### Names -/
theorem mem_addN {ns : List (List UInt8)} {q : Wnt} {k : List UInt8} : k ∈ addN ns q ↔ k ∈ ns ∨ k = q.ent.cid := by
  unfold addN
  split
  · rename_i h
    constructor
    · exact .inl
    · rintro (h' | rfl)
      · exact h'
      · exact h
  · simp
theorem mem_names : ∀ (l : List Wnt) (ns : List (List UInt8)) (k : List UInt8), k ∈ l.foldl addN ns ↔ k ∈ ns ∨ ∃ q ∈ l, q.ent.cid = k
  | [], ns, k => by simp
  | q :: t, ns, k => by
    rw [List.foldl_cons, mem_names t, mem_addN]
    simp only [List.mem_cons, exists_eq_or_imp]
    constructor
    · rintro ((h | h) | h)
      · exact .inl h
      · exact .inr (.inl h.symm)
      · exact .inr (.inr h)
    · rintro (h | h | h)
      · exact .inl (.inl h)
      · exact .inl (.inr h.symm)
      · exact .inr h
theorem nodup_addN {ns : List (List UInt8)} {q : Wnt} (h : ns.Nodup) : (addN ns q).Nodup := by
  unfold addN
  split
  · exact h
  · rename_i hn
    rw [List.nodup_append]
    refine ⟨h, by simp, fun a ha b hb => ?_⟩
    obtain rfl : b = q.ent.cid := by simpa using hb
    exact fun e => hn (e ▸ ha)
theorem nodup_names : ∀ (l : List Wnt) (ns : List (List UInt8)), ns.Nodup → (l.foldl addN ns).Nodup
  | [], _, h => h
  | _ :: t, _, h => nodup_names t _ (nodup_addN h)
theorem names_len : ∀ (l : List Wnt) (ns : List (List UInt8)), (l.foldl addN ns).length ≤ ns.length + l.length
  | [], _ => Nat.le_refl _
  | q :: t, ns => by
    have h := names_len t (addN ns q)
    have h2 : (addN ns q).length ≤ ns.length + 1 := by unfold addN; split <;> simp
    rw [List.foldl_cons, List.length_cons]
    omega
theorem names_perm (a b : List Wnt) : (namesW (a ++ b)).Perm (namesW (b ++ a)) := by
  refine (List.perm_ext_iff_of_nodup (nodup_names _ _ (by simp)) (nodup_names _ _ (by simp))).2 fun k => ?_
  rw [mem_names, mem_names]
  simp only [List.mem_append]
  constructor
  · rintro (h | ⟨q, h | h, e⟩)
    · exact .inl h
    · exact .inr ⟨q, .inr h, e⟩
    · exact .inr ⟨q, .inl h, e⟩
  · rintro (h | ⟨q, h | h, e⟩)
    · exact .inl h
    · exact .inr ⟨q, .inr h, e⟩
    · exact .inr ⟨q, .inl h, e⟩
theorem sort_eq {l l' : List (List UInt8)} (h : l.Perm l') : sortW l = sortW l' := by
  unfold sortW
  have hp : ((l.mergeSort fun x y => decide (x ≤ y)).Perm (l'.mergeSort fun x y => decide (x ≤ y))) := (List.mergeSort_perm _ _).trans (h.trans (List.mergeSort_perm _ _).symm)
  have tr : ∀ a b c : List UInt8, decide (a ≤ b) = true → decide (b ≤ c) = true → decide (a ≤ c) = true := fun a b c h1 h2 => decide_eq_true (List.le_trans (of_decide_eq_true h1) (of_decide_eq_true h2))
  have tt : ∀ a b : List UInt8, (decide (a ≤ b) || decide (b ≤ a)) = true := fun a b => by
    rcases List.le_total a b with h | h <;> simp [h]
  refine hp.eq_of_pairwise (fun a b _ _ h1 h2 => ?_) (List.pairwise_mergeSort tr tt l) (List.pairwise_mergeSort tr tt l')
  exact List.le_antisymm (of_decide_eq_true h1) (of_decide_eq_true h2)
/-- The law. -/
theorem wanted_law {a b : List Wnt} (h : Parted a b) :
    (wantedW (a ++ b)).length = a.length + b.length ∧ (wantedW (b ++ a)).length = a.length + b.length ∧
    (∀ x, (wantedW (a ++ b)).getLast? = some x → ∃ y, (wantedW (b ++ a)).getLast? = some y ∧ x.len = y.len ∧ x.all = y.all) ∧
    ∀ (i : Nat) (q : Wnt), a[i]? = some q → ∃ x y, (wantedW (a ++ b))[i]? = some x ∧ (wantedW (b ++ a))[b.length + i]? = some y ∧ x.ok = y.ok := by
  have hn : sortW (namesW (b ++ a)) = sortW (namesW (a ++ b)) := (sort_eq (names_perm a b)).symm
  unfold wantedW
  rw [hn]
  obtain ⟨U, hUn, hU⟩ : ∃ U : List (List UInt8), U.Nodup ∧ ∀ q ∈ a ++ b, q.ent.cid ∈ U := ⟨namesW (a ++ b), nodup_names _ _ (by simp), fun q hq => (mem_names _ _ _).2 (.inr ⟨q, hq, rfl⟩)⟩
  generalize sortW (namesW (a ++ b)) = N
  refine ⟨?_, ?_, ?_, ?_⟩
  · unfold runW; rw [run_len]; simp
  · unfold runW; rw [run_len]; simp; omega
  · intro x hx
    have hne : a ++ b ≠ [] := fun e => by rw [e] at hx; simp [runW] at hx
    have hne2 : b ++ a ≠ [] := fun e => hne (by simp at e; simp [e.1, e.2])
    obtain ⟨ok, ent, h1⟩ := run_last N (a ++ b) ⟨fun _ => none, 0, []⟩ hne
    obtain ⟨ok2, ent2, h2⟩ := run_last N (b ++ a) ⟨fun _ => none, 0, []⟩ hne2
    have c1 := run_c hUn N (a ++ b) ⟨fun _ => none, 0, []⟩ hU (by simp [cntK])
    have c2 := run_c hUn N (b ++ a) ⟨fun _ => none, 0, []⟩ (fun q hq => hU q (by simp at hq ⊢; exact hq.symm)) (by simp [cntK])
    have hf : ((b ++ a).foldl (stW N) ⟨fun _ => none, 0, []⟩).f = ((a ++ b).foldl (stW N) ⟨fun _ => none, 0, []⟩).f := by
      rw [run_f, run_f, List.foldl_append, List.foldl_append]
      exact (fold_swap h).symm
    unfold runW at hx
    rw [h1] at hx
    injection hx with hx
    subst hx
    refine ⟨_, h2, ?_, ?_⟩
    · show _ = _
      rw [c1, c2, hf]
    · show _ = _
      rw [hf]
  · intro i q hq
    have hi : i < a.length := (List.getElem?_eq_some_iff.1 hq).1
    obtain ⟨c1, h1⟩ := run_at N (a ++ b) ⟨fun _ => none, 0, []⟩ i q (by rw [List.getElem?_append_left hi]; exact hq)
    obtain ⟨c2, h2⟩ := run_at N (b ++ a) ⟨fun _ => none, 0, []⟩ (b.length + i) q (by rw [List.getElem?_append_right (by omega), Nat.add_sub_cancel_left]; exact hq)
    simp only [List.length_nil, Nat.zero_add] at h1 h2
    refine ⟨_, _, h1, h2, ?_⟩
    show okW _ q = okW _ q
    refine okW_agree ?_
    rw [List.take_append_of_le_length (by omega), List.take_append, List.take_of_length_le (show b.length ≤ b.length + i by omega), Nat.add_sub_cancel_left, List.foldl_append]
    refine fold_agree _ ?_
    show none = _
    rw [fold_other b (fun x hx e => h q (List.mem_of_getElem? hq) x hx e.symm)]
end Go.Proofs.YtijbdinemjiepaaDoor
