/- laws.sameEntry, slices.EqualFunc over entries. -/
import Derived.Test.YtijbdinemjiepaaDoorWoX
namespace Go.Proofs.YtijbdinemjiepaaDoor
open Go.RowKit

def enrF (e : Enr) : List FV := [.bytes e.cid, .lit (.int .i32 e.prio), .lit (.bool e.hv)]
theorem ER.frow {W : World} {B : Nat} : ∀ {l : List Enr} {zs : List Value}, ER W B l zs → FRow W Bare (l.flatMap enrF) zs
  | [], _, h => h
  | q :: t, zs, ⟨v, ys, e1, h1, h2⟩ => by
    rw [List.flatMap_cons, e1]
    exact ⟨_, _, rfl, own_in h1, _, _, rfl, ⟨rfl, rfl⟩, _, _, rfl, ⟨rfl, rfl⟩, ER.frow h2⟩
theorem enr_at {w W : World} {l : List Enr} {A : Option Addr} {n c : Nat} (h : RowF w 3 n (l.flatMap enrF) (.slice A n c)) (hn : l.length = n) (hW : Below w.heap.size w W) {j : Nat} {e : Enr} (hq : l[j]? = some e) :
    ∃ b o A1 c1, A = some ⟨b, o, none⟩ ∧ b < W.heap.size ∧ W.cell? ⟨b, o + j * 3, none⟩ = some (.slice A1 e.cid.length c1) ∧ W.cell? ⟨b, o + j * 3 + 1, none⟩ = some (.int .i32 e.prio) ∧ W.cell? ⟨b, o + j * 3 + 2, none⟩ = some (.bool e.hv) ∧ e.cid.length ≤ c1 ∧ Reads W W.heap.size 1 A1 e.cid.length (u8s e.cid) := by
  obtain ⟨b, o, ha, hb, hc⟩ := h.field (F := enrF) (fun _ => rfl) (by omega) hW hq hn
  obtain ⟨u0, k0, f0⟩ := hc 0 _ rfl
  obtain ⟨_, k1, rfl, _⟩ := hc 1 _ rfl
  obtain ⟨_, k2, rfl, _⟩ := hc 2 _ rfl
  obtain ⟨A1, c1, rfl, hc1, hr1, _⟩ := f0
  exact ⟨b, o, A1, c1, ha, Nat.lt_of_lt_of_le hb hW.size, k0, k1, k2, hc1, ron hr1 hW⟩
set_option maxRecDepth 100000 in
set_option maxHeartbeats 4000000 in
theorem sameEntry_any (e : Enr) (A1 A2 : Option Addr) (c1 c2 : Nat) (W : World) (h1 : Reads W W.heap.size 1 A1 e.cid.length (u8s e.cid)) (h2 : Reads W W.heap.size 1 A2 e.cid.length (u8s e.cid)) :
    Calls Tryd.prog 25 #[.agg #[.slice A1 e.cid.length c1, .int .i32 e.prio, .bool e.hv], .agg #[.slice A2 e.cid.length c2, .int .i32 e.prio, .bool e.hv]] W fun r W' => r = .returned (.bool true) ∧ Below W.heap.size W W' := by
  have hb := below_alloc (below_one W (.cells #[.slice A1 e.cid.length c1, .int .i32 e.prio, .bool e.hv] 52)) (.cells #[.slice A2 e.cid.length c2, .int .i32 e.prio, .bool e.hv] 52)
  have HB := Lib.hid hb
  have HE := Lib.hid (equal_u8 A1 A2 e.cid.length c1 e.cid.length c2 _ _ e.cid e.cid _ (ron h1 hb) (ron h2 hb))
  rw [sameB_self] at HE
  clear h1 h2 hb
  go_enter Tryd.func25, Tryd.ntmps25
  go_wp2_with (first | (go_at_call 36; (with_reducible refine HE.out.mono ?_); clear HE; rintro r w1 ⟨rfl, rfl⟩) | fail)
  go_ret
  exact ⟨by cases e.hv <;> simp, HB.out⟩
set_option maxRecDepth 100000 in
set_option maxHeartbeats 8000000 in
theorem equalEntries_any (l : List Enr) (A1 A2 : Option Addr) (c1 c2 n : Nat) (W : World) (h1 : RowF W 3 n (l.flatMap enrF) (.slice A1 n c1)) (h2 : RowF W 3 n (l.flatMap enrF) (.slice A2 n c2)) (hn : l.length = n) (hn2 : n ≤ 1000) :
    Calls Tryd.prog 24 #[.slice A1 n c1, .slice A2 n c2, .func (.func 25) #[] #[]] W fun r W' => r = .returned (.bool true) ∧ Below W.heap.size W W' := by
  have H1 := Lib.hid h1
  have H2 := Lib.hid h2
  have HN := Lib.hid hn
  clear h1 h2 hn
  go_enter Tryd.func24, Tryd.ntmps24
  go_wp2
  go_loopw [17] (fun si wr => ∃ j : Nat, j ≤ n ∧ si = .int .i64 j ∧ Hid (Below W.heap.size W wr)) (fun si _ => n - (intOf si).toNat)
  case atStart => exact ⟨0, Nat.zero_le _, rfl, Below.refl _ _⟩
  case round =>
    obtain ⟨j, hj, rfl, HW⟩ := hrel
    by_cases hlt : j < n
    · obtain ⟨e, he⟩ : ∃ e, l[j]? = some e := ⟨_, List.getElem?_eq_getElem (by have := HN.out; omega)⟩
      obtain ⟨b1, o1, B1, d1, rfl, hb1, k0, k1, k2, hd1, hr1⟩ := enr_at H1.out HN.out HW.out he
      obtain ⟨b2, o2, B2, d2, rfl, hb2, m0, m1, m2, hd2, hr2⟩ := enr_at H2.out HN.out HW.out he
      have g1 : (j : Int) < (n : Int) := by omega
      have hbb := below_alloc (below_one wr (.cells #[.slice B1 e.cid.length d1, .int .i32 e.prio, .bool e.hv] 52)) (.cells #[.slice B2 e.cid.length d2, .int .i32 e.prio, .bool e.hv] 52)
      have HS := Lib.hid (sameEntry_any e B1 B2 d1 d2 _ (ron hr1 hbb) (ron hr2 hbb))
      have HBB := Lib.hid (below_then HW.out HW.out.size hbb)
      clear he hr1 hr2 hbb
      go_wp2_with (first | (go_at_call 25; (with_reducible refine HS.out.mono ?_); clear HS; rintro r w2 ⟨rfl, hb⟩; have HB2 := Lib.hid (below_then HBB.out HBB.out.size hb); clear hb) | fail)
      go_roundw
      case rel => exact ⟨j + 1, by omega, by go_num, HB2.out⟩
      case measure => simp [intOf]; omega
    · have g1 : ¬ (j : Int) < (n : Int) := by omega
      go_wp2
      go_ret
      exact ⟨rfl, HW.out⟩
end Go.Proofs.YtijbdinemjiepaaDoor
