/- Changes: laws.change. -/
import Derived.Test.YtijbdinemjiepaaDoorDfC
import Derived.Test.YtijbdinemjiepaaDoorDfP
import Derived.Deep.RegionHeld3
namespace Go.Proofs.YtijbdinemjiepaaDoor
open Go.RowKit

/-- A change: its type, its path, the numbers of its identifiers. -/
structure Dif where
  ty : Nat
  path : ByteArray
  bef : Nat
  aft : Nat
def paths8 : List ByteArray := [⟨#[97]⟩, ⟨#[98]⟩, ⟨#[97, 47, 98]⟩, ⟨#[99]⟩, ⟨#[]⟩, ⟨#[100, 47, 101]⟩, ⟨#[120]⟩, ⟨#[121]⟩]
def chg (n : Nat) : Dif := ⟨n % 3, (paths8[n / 3 % 8]?).getD ⟨#[]⟩, n / 32 % 4, n / 128 % 256⟩
theorem bcell {W w1 : World} (hb : Below W.heap.size W w1) : (∀ b o, b < W.heap.size → w1.cell? ⟨b, o, none⟩ = W.cell? ⟨b, o, none⟩) ∧ (∀ b o, b < W.heap.size → w1.frozen? ⟨b, o, none⟩ = W.frozen? ⟨b, o, none⟩) :=
  ⟨fun b o h => hb.cell (p := ⟨b, o, none⟩) h, fun b o h => hb.frozen (p := ⟨b, o, none⟩) h⟩
/-- The cells of a change, whose identifiers lie above block lo. -/
def DVal (w : World) (lo : Nat) (d : Dif) (v : List Value) : Prop := ∃ A1 c1 A2 c2, v = [.int .i64 (d.ty : Nat), .string d.path, .slice A1 (identB d.bef).length c1, .slice A2 (identB d.aft).length c2] ∧ ((identB d.bef).length ≤ c1 ∧ (identB d.aft).length ≤ c2) ∧ (Reads w w.heap.size 1 A1 (identB d.bef).length (u8s (identB d.bef)) ∧ Reads w w.heap.size 1 A2 (identB d.aft).length (u8s (identB d.aft))) ∧ (∀ ad, A1 = some ad → lo < ad.block) ∧ (∀ ad, A2 = some ad → lo < ad.block)
theorem dval_mk {w : World} {lo ty k1 k2 c1 c2 : Nat} {P : ByteArray} {A1 A2 : Option Addr} (h1 : (identB k1).length ≤ c1) (h2 : (identB k2).length ≤ c2) (r1 : Reads w w.heap.size 1 A1 (identB k1).length (u8s (identB k1))) (r2 : Reads w w.heap.size 1 A2 (identB k2).length (u8s (identB k2))) (n1 : ∀ ad, A1 = some ad → lo < ad.block) (n2 : ∀ ad, A2 = some ad → lo < ad.block) : DVal w lo ⟨ty, P, k1, k2⟩ [.int .i64 (ty : Nat), .string P, .slice A1 (identB k1).length c1, .slice A2 (identB k2).length c2] := ⟨A1, c1, A2, c2, rfl, ⟨h1, h2⟩, ⟨r1, r2⟩, n1, n2⟩
theorem fin_blk {w : World} {g : Nat} {t : TypeId} {z0 z1 z2 z3 : Value} (h : Blk w g t #[z0, z1, z2, z3]) (a b c d : Value) : Blk ((((w.setCell ⟨g, 0, none⟩ a).setCell ⟨g, 1, none⟩ b).setCell ⟨g, 2, none⟩ c).setCell ⟨g, 3, none⟩ d) g t #[a, b, c, d] := (((h.set_ 0 a).set_ 1 b).set_ 2 c).set_ 3 d
theorem blk_next {W w' : World} {g : Nat} {t : TypeId} {cs : Array Value} (hb : Below W.heap.size W w') (h : Blk W g t cs) : Blk w' g t cs := h.below hb h.lt
theorem bel_next {w W w' : World} (hb : Below W.heap.size W w') (h : Below w.heap.size w W) : Below w.heap.size w w' := h.trans (hb.mono h.size)
theorem rd_next {W w' : World} {A : Option Addr} {n : Nat} {xs : List Value} (hb : Below W.heap.size W w') (h : Reads W W.heap.size 1 A n xs) : Reads w' w'.heap.size 1 A n xs := (h.below hb).more hb.size
theorem rd_alloc {W : World} {A : Option Addr} {n : Nat} {xs : List Value} (h : Reads W W.heap.size 1 A n xs) (o : Obj) : Reads (W.alloc o) (W.alloc o).heap.size 1 A n xs := (h.alloc (Nat.le_refl _) o).more (by simp)
theorem Reads.past {w w' : World} {B size n b : Nat} {A : Option Addr} {xs : List Value} (h : Reads w B size A n xs) (hg : w.grownBy w' (some b)) (hB : B ≤ w.heap.size) (hA : ∀ ad, A = some ad → ad.block ≠ b) : Reads w' B size A n xs :=
  ⟨h.1, fun hn => by
    obtain ⟨ad, e, hb, hc⟩ := h.2 hn
    exact ⟨ad, e, hb, fun j u hu => (World.cell?_of_block (hg.block _ (by rw [block_of_add]; omega) (fun e2 => hA ad e (by injection e2 with e2; rw [block_of_add] at e2; exact e2)))).trans (hc j u hu)⟩⟩
theorem four_sets (w : World) (g : Nat) (a b c d : Value) : w.grownBy ((((w.setCell ⟨g, 0, none⟩ a).setCell ⟨g, 1, none⟩ b).setCell ⟨g, 2, none⟩ c).setCell ⟨g, 3, none⟩ d) (some g) :=
  only_trans (only_trans (only_trans (only_set _ g 0 a) (only_set _ g 1 b)) (only_set _ g 2 c)) (only_set _ g 3 d)
theorem fin_read {w : World} {A : Option Addr} {n g : Nat} {xs : List Value} (h : Reads w w.heap.size 1 A n xs) (hA : ∀ ad, A = some ad → g < ad.block) (a b c d : Value) : Reads ((((w.setCell ⟨g, 0, none⟩ a).setCell ⟨g, 1, none⟩ b).setCell ⟨g, 2, none⟩ c).setCell ⟨g, 3, none⟩ d) ((((w.setCell ⟨g, 0, none⟩ a).setCell ⟨g, 1, none⟩ b).setCell ⟨g, 2, none⟩ c).setCell ⟨g, 3, none⟩ d).heap.size 1 A n xs :=
  (h.past (four_sets w g a b c d) (Nat.le_refl _) (fun ad e => Nat.ne_of_gt (hA ad e))).more (four_sets w g a b c d).size
theorem fin_below {w0 w : World} (h : Below w0.heap.size w0 w) (a b c d : Value) : Below w0.heap.size w0 ((((w.setCell ⟨w0.heap.size, 0, none⟩ a).setCell ⟨w0.heap.size, 1, none⟩ b).setCell ⟨w0.heap.size, 2, none⟩ c).setCell ⟨w0.heap.size, 3, none⟩ d) :=
  (((h.setCell (Nat.le_refl _) _).setCell (Nat.le_refl _) _).setCell (Nat.le_refl _) _).setCell (Nat.le_refl _) _
theorem own_far {w W : World} {A : Option Addr} {n c g base : Nat} {e : TypeId} {xs : List Value} (h : W.ownsRow base e 1 (.slice A n c) n xs) (hg : g < base) : ∀ ad, A = some ad → g < ad.block := by
  intro ad e1
  subst e1
  have _ := w
  rcases h.2 with ⟨h1, _⟩ | ⟨g2, cap, cur, h1, h2, _⟩
  · cases h1
  · injection h1 with h1
    injection h1 with h1
    subst h1
    show g < g2
    omega
set_option maxRecDepth 100000 in
set_option maxHeartbeats 4000000 in
theorem change_any (n : Nat) (w : World) (hn : n < 65536) : Calls Tryd.prog 32 #[.int .u16 n] w fun e w' => ∃ v, e = .returned (.agg v.toArray) ∧ DVal w' w.heap.size (chg n) v ∧ Below w.heap.size w w' := by
  obtain ⟨ty, hty⟩ : ∃ t, n % 3 = t := ⟨_, rfl⟩
  obtain ⟨k1, hk1⟩ : ∃ t, n / 32 % 4 = t := ⟨_, rfl⟩
  obtain ⟨k2, hk2⟩ : ∃ t, n / 128 % 256 = t := ⟨_, rfl⟩
  obtain ⟨pi, hpi⟩ : ∃ t, n / 3 % 8 = t := ⟨_, rfl⟩
  have e0 : (n : Int) % 3 = (ty : Int) := by omega
  have e1 : (n : Int) / 32 % 4 = (k1 : Int) := by omega
  have e2 : (n : Int) / 128 % 256 = (k2 : Int) := by omega
  have e3 : (n : Int) / 3 % 8 = (pi : Int) := by omega
  have f1 : (n : Int).tmod 3 = (ty : Int) := by rw [Int.tmod_eq_emod_of_nonneg (by omega)]; exact e0
  have f2 : (IntKind.u16.wrap ((n : Int) / 3)).tmod 8 = (pi : Int) := by
    rw [show IntKind.u16.wrap ((n : Int) / 3) = (n : Int) / 3 by simp [IntKind.wrap, IntKind.bits, IntKind.signed]; omega, Int.tmod_eq_emod_of_nonneg (by omega)]
    exact e3
  have f3 : bits .and .u16 ((n : Int) / 32) 3 = (k1 : Int) := by
    have h := u16_and_nat (n / 32) 3 (by omega) (by omega)
    rw [show n / 32 &&& 3 = n / 32 % 4 from Nat.and_two_pow_sub_one_eq_mod (n / 32) 2, hk1] at h
    rw [← h]
    rfl
  have f4 : IntKind.u8.wrap (k1 : Int) = (k1 : Int) := by simp [IntKind.wrap, IntKind.bits, IntKind.signed]; omega
  have f5 : IntKind.u8.wrap ((n : Int) / 128) = (k2 : Int) := by simp [IntKind.wrap, IntKind.bits, IntKind.signed]; omega
  have f6 : IntKind.i64.wrap (ty : Int) = (ty : Int) := by rw [IntKind.wrap_i64]; omega
  have hp8 : (pi : Int) < 8 := by omega
  have hk1' : (k1 : Int) < 4 := by omega
  have hk2' : (k2 : Int) < 256 := by omega
  have H1 := Lib.hid (fun W => ident_any k1 W (by omega))
  have H2 := Lib.hid (fun W => ident_any k2 W (by omega))
  obtain ⟨P, hP, hP2⟩ : ∃ P, ((#[.string ⟨#[97]⟩, .string ⟨#[98]⟩, .string ⟨#[97, 47, 98]⟩, .string ⟨#[99]⟩, .string ⟨#[]⟩, .string ⟨#[100, 47, 101]⟩, .string ⟨#[120]⟩, .string ⟨#[121]⟩] : Array Value)[pi]?) = some (.string P) ∧ (paths8[pi]?).getD ⟨#[]⟩ = P := by
    obtain rfl | rfl | rfl | rfl | rfl | rfl | rfl | rfl : pi = 0 ∨ pi = 1 ∨ pi = 2 ∨ pi = 3 ∨ pi = 4 ∨ pi = 5 ∨ pi = 6 ∨ pi = 7 := by omega
    all_goals exact ⟨_, rfl, rfl⟩
  have HCH : Hid (chg n = ⟨ty, P, k1, k2⟩) := by show _ = _; rw [chg, hty, hpi, hP2, hk1, hk2]
  clear hP2
  clear hty hk1 hk2 hpi
  have HK := Lib.hid (Blk.new w 32 #[.int .i64 0, .string ⟨#[]⟩, .slice none 0 0, .slice none 0 0])
  have HBW := Lib.hid (below_one w (.cells #[.int .i64 0, .string ⟨#[]⟩, .slice none 0 0, .slice none 0 0] 32))
  go_enter Tryd.func32, Tryd.ntmps32
  go_wp2_with fail
  go_region_with (first | (go_at_call_of 21 (Value.int .u8 (k1 : Int)); refine (H1.out _).mono ?_; rintro e w1 ⟨⟨v1, rfl, ho1⟩, hb1⟩; obtain ⟨hc1, hf1⟩ := bcell hb1; obtain ⟨A1, c1, rfl, hcc1, hr1⟩ := own_shape ho1; have HN1 := Lib.hid (own_far (w := w) (g := w.heap.size) ho1 (by first | with_reducible exact HK.out.lt | with_reducible exact HK.out.drew.lt | with_reducible exact (HK.out.alloc _).lt | with_reducible exact (HK.out.alloc _).drew.lt | with_reducible exact (HK.out.drew.alloc _).lt)); have HC1 := Lib.hid hcc1; have HR1 := Lib.hid hr1; have HB1 := Lib.hid hb1; have hs1 : w.heap.size < w1.heap.size := (by have hz := hb1.size; (try simp at hz); omega); have hzz1 := hb1.size; (try simp at hzz1); (try (have hlt1 := Nat.lt_of_succ_le hzz1)); have hk1 := Lib.hid (blk_next hb1 (by first | with_reducible exact HK.out | with_reducible exact HK.out.drew | with_reducible exact (HK.out.alloc _) | with_reducible exact (HK.out.alloc _).drew | with_reducible exact (HK.out.drew.alloc _))); clear HK; have HK := hk1; clear hk1; have hw1 := Lib.hid (bel_next hb1 (by first | with_reducible exact HBW.out | with_reducible exact HBW.out.drew | with_reducible exact below_alloc HBW.out _ | with_reducible exact (below_alloc HBW.out _).drew | with_reducible exact below_alloc HBW.out.drew _)); clear HBW; have HBW := hw1; clear hw1; clear ho1 hb1 hr1 hcc1) | (go_at_call_of 21 (Value.int .u8 (k2 : Int)); refine (H2.out _).mono ?_; rintro e w2 ⟨⟨v2, rfl, ho2⟩, hb2⟩; obtain ⟨hc2, hf2⟩ := bcell hb2; obtain ⟨A2, c2, rfl, hcc2, hr2⟩ := own_shape ho2; have HN2 := Lib.hid (own_far (w := w) (g := w.heap.size) ho2 (by first | with_reducible exact HK.out.lt | with_reducible exact HK.out.drew.lt | with_reducible exact (HK.out.alloc _).lt | with_reducible exact (HK.out.alloc _).drew.lt | with_reducible exact (HK.out.drew.alloc _).lt)); have HC2 := Lib.hid hcc2; have HR2 := Lib.hid hr2; have HB2 := Lib.hid hb2; have hs2 : w.heap.size < w2.heap.size := (by have hz := hb2.size; (try simp at hz); omega); have hzz2 := hb2.size; (try simp at hzz2); (try (have hlt2 := Nat.lt_of_succ_le hzz2)); have hk2 := Lib.hid (blk_next hb2 (by first | with_reducible exact HK.out | with_reducible exact HK.out.drew | with_reducible exact (HK.out.alloc _) | with_reducible exact (HK.out.alloc _).drew | with_reducible exact (HK.out.drew.alloc _))); clear HK; have HK := hk2; clear hk2; have hw2 := Lib.hid (bel_next hb2 (by first | with_reducible exact HBW.out | with_reducible exact HBW.out.drew | with_reducible exact below_alloc HBW.out _ | with_reducible exact (below_alloc HBW.out _).drew | with_reducible exact below_alloc HBW.out.drew _)); clear HBW; have HBW := hw2; clear hw2; (try (have hx := Lib.hid (rd_next hb2 (by first | with_reducible exact HR1.out | with_reducible exact rd_alloc HR1.out _)); clear HR1; have HR1 := hx; clear hx)); clear ho2 hb2 hr2 hcc2) | fail)
  all_goals
    go_wp2
    refine bodyPost_ret (results_cell_row rfl _ _ _ _ _ _ _ rfl (show Blk _ _ _ _ by first | with_reducible exact fin_blk HK.out _ _ _ _ | with_reducible exact (fin_blk HK.out _ _ _ _).alloc _) Tryd.underlying32 rfl (by kernel_rfl)) rfl ?_
    rw [HCH.out]
    first
    | (with_reducible refine ⟨[.int .i64 (ty : Nat), .string P, .slice A1 (identB k1).length c1, .slice A2 (identB k2).length c2], rfl, dval_mk HC1.out HC2.out (fin_read HR1.out HN1.out _ _ _ _) (fin_read HR2.out HN2.out _ _ _ _) HN1.out HN2.out, fin_below HBW.out _ _ _ _⟩)
    | with_reducible refine ⟨[.int .i64 (ty : Nat), .string P, .slice A1 (identB k1).length c1, .slice A2 (identB k2).length c2], rfl, dval_mk HC1.out HC2.out (rd_alloc (fin_read HR1.out HN1.out _ _ _ _) _) (rd_alloc (fin_read HR2.out HN2.out _ _ _ _) _) HN1.out HN2.out, below_alloc (fin_below HBW.out _ _ _ _) _⟩
end Go.Proofs.YtijbdinemjiepaaDoor
