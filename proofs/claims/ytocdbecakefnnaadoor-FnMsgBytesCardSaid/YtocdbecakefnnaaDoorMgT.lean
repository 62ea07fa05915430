/- What is written into a buffer, from its end on. -/
import Derived.Test.YtocdbecakefnnaaDoorMgV
import Derived.Laws.CopyOwn
import Derived.Lib.LazyBuf
namespace Go.Proofs.YtocdbecakefnnaaDoor
open Go.RowKit

/-- What is written so far: S, from place i on, up to n; one block is turned. -/
structure PutSt (w : World) (g n : Nat) (L S : List UInt8) (i : Nat) (wx : World) : Prop where
  fit : n ≤ L.length
  len : i + S.length = n
  blk : Blk wx g 5 (u8s (put L i S)).toArray
  only : Below g w wx
theorem put_full {L : List UInt8} (n : Nat) : put L n [] = L := put_nil L n
theorem PutSt.start {w : World} {g n : Nat} {L : List UInt8} (h : Blk w g 5 (u8s L).toArray) (hn : n ≤ L.length) : PutSt w g n L [] n w := ⟨hn, by simp, by rw [put_nil]; exact h, Below.refl _ _⟩
theorem put_front (L : List UInt8) (p i : Nat) (a S : List UInt8) (hp : p + a.length = i) (h : i + S.length ≤ L.length) : put (put L i S) p a = put L p (a ++ S) := by
  subst hp
  exact put_put L p a S h
theorem PutSt.varint {w wx w' : World} {g n i v : Nat} {L S : List UInt8} (h : PutSt w g n L S i wx) (hk : (uv v).length ≤ i)
    (hb : Blk w' g 5 (u8s (put (put L i S) (i - (uv v).length) (uv v))).toArray) (hg : Below g wx w') : PutSt w g n L (uv v ++ S) (i - (uv v).length) w' := by
  have h1 := h.fit
  have h2 := h.len
  refine ⟨h.fit, by rw [List.length_append]; omega, ?_, h.only.trans hg⟩
  rw [put_front L _ i _ _ (by omega) (by omega)] at hb
  exact hb
theorem PutSt.tag {w wx : World} {g n i : Nat} {L S : List UInt8} (h : PutSt w g n L S i wx) (hi : 0 < i) (key : UInt8) : PutSt w g n L (key :: S) (i - 1) (wx.setCell ⟨g, i - 1, none⟩ (.int .u8 (key.toNat : Int))) := by
  have h1 := h.fit
  have h2 := h.len
  refine ⟨h.fit, by rw [List.length_cons]; omega, ?_, h.only.setCell (Nat.le_refl g) _⟩
  have hs := blk_set h.blk (i - 1) key
  rw [put_one _ _ _ (by rw [put_length L i S (by omega)]; omega), put_front L (i - 1) i [key] S (by simp; omega) (by omega)] at hs
  exact hs
theorem u8s_splice (L : List UInt8) (p : Nat) (b : List UInt8) : splice (u8s L) p (u8s b) = u8s (put L p b) := by
  simp [splice, put, u8s_append, u8s_take, u8s_drop, u8s_length]
theorem PutSt.copy {w wx w' : World} {g n i p : Nat} {L S b : List UInt8} (h : PutSt w g n L S i wx) (hk : p + b.length = i) (hb : w'.heap[g]? = some (.cells (splice (u8s (put L i S)) p (u8s b)).toArray 5 (0, 0))) (hg : Below g wx w') : PutSt w g n L (b ++ S) p w' := by
  have h1 := h.fit
  have h2 := h.len
  refine ⟨h.fit, by rw [List.length_append]; omega, ?_, h.only.trans hg⟩
  rw [u8s_splice, put_front L _ i _ _ hk (by omega)] at hb
  exact hb
/-- Behind a number that is written: the place ahead of it can be written. -/
structure PutMid (w : World) (g n : Nat) (L S : List UInt8) (i : Nat) (r : Ending) (w2 : World) : Prop where
  ret : r = .returned (.int .i64 ((i + 1 : Nat)))
  st : PutSt w g n L S (i + 1) w2
  cell : ∃ old, w2.cell? ⟨g, i, none⟩ = some old
  frozen : w2.frozen? ⟨g, i, none⟩ = false
theorem PutSt.call {w wx : World} {g n c i i2 v : Nat} {L S : List UInt8} (h : PutSt w g n L S i wx) (hv : v < 18446744073709551616) (hk : i2 + 1 + (uv v).length = i) (hn2 : n ≤ 140737488355328) :
    Calls Tryd.prog 56 #[.slice (some ⟨g, 0, none⟩) n c, .int .i64 i, .int .u64 v] wx (PutMid w g n L (uv v ++ S) i2) := by
  have h1 := h.fit
  have h2 := h.len
  have hl : (put L i S).length = L.length := put_length L i S (by omega)
  refine (encodeVarint_any g n c i v (put L i S) wx h.blk (by omega) hn2 hv (by omega) (by omega)).mono ?_
  rintro e w2 ⟨rfl, hb, hg⟩
  have hi : i - (uv v).length = i2 + 1 := by omega
  have hl2 : (put (put L i S) (i2 + 1) (uv v)).length = L.length := by rw [put_length _ _ _ (by omega), hl]
  rw [hi] at hb ⊢
  have hst := h.varint (v := v) (w' := w2) (by omega) (by rw [hi]; exact hb) ((Below.refl g wx).grown hg (Nat.le_of_lt h.blk.lt) (fun k e => by injection e with e; omega))
  rw [hi] at hst
  exact ⟨rfl, hst, ⟨_, blk_cell hb i2 (by omega)⟩, hb.frozen i2⟩
theorem PutSt.key {w wx : World} {g n i : Nat} {L S : List UInt8} (h : PutSt w g n L S (i + 1) wx) (key : UInt8) {v : Int} (hv : (key.toNat : Int) = v) : PutSt w g n L (key :: S) i (wx.setCell ⟨g, i, none⟩ (.int .u8 v)) := by
  subst hv
  exact h.tag (by omega) key
theorem PutSt.drew {w wx : World} {g n i : Nat} {L S : List UInt8} (h : PutSt w g n L S i wx) : PutSt w g n L S i wx.drew := ⟨h.fit, h.len, h.blk.drew, below_drewN h.only 1⟩
theorem put_cons (L : List UInt8) (o : Nat) (x : UInt8) (b : List UInt8) (h : o + (b.length + 1) ≤ L.length) : put (L.set o x) (o + 1) b = put L o (x :: b) := by
  rw [put_one L o x (by omega)]
  have hd : o + 1 + b.length = o + (b.length + 1) := by omega
  have h1 : (put L o [x]).take (o + 1) = L.take o ++ [x] := by
    have e : (L.take o ++ [x]).length = o + 1 := by simp; omega
    show (L.take o ++ ([x] ++ L.drop (o + 1))).take (o + 1) = _
    rw [← List.append_assoc, List.take_append_of_le_length (by omega), List.take_of_length_le (by omega)]
  have h2 : (put L o [x]).drop (o + 1 + b.length) = L.drop (o + (b.length + 1)) := by
    have e : (L.take o ++ [x]).length = o + 1 := by simp; omega
    show (L.take o ++ ([x] ++ L.drop (o + 1))).drop (o + 1 + b.length) = _
    rw [← List.append_assoc, List.drop_append, List.drop_of_length_le (by omega), List.nil_append, List.drop_drop, e]
    congr 1
    omega
  unfold put at h1 h2 ⊢
  rw [h1, h2]
  simp
theorem blk_setCells {g : Nat} : ∀ (b : List UInt8) (o : Nat) (L : List UInt8) (w : World), Blk w g 5 (u8s L).toArray → o + b.length ≤ L.length → Blk (w.setCells g o (u8s b)) g 5 (u8s (put L o b)).toArray
  | [], o, L, w, h, _ => by rw [put_nil]; exact h
  | x :: b, o, L, w, h, hl => by
    rw [List.length_cons] at hl
    have := blk_setCells b (o + 1) (L.set o x) _ (blk_set h o x) (by rw [List.length_set]; omega)
    rw [put_cons L o x b hl] at this
    exact this
theorem sizeU8 (w : World) : (Go.sizeOf 5).run Tryd.prog w = .ok 1 w := by
  obtain ⟨i0, hi, hz0, hz1, hz2⟩ := info_parts infoU8w
  simp [sizeOf, typeInfo, hi, hz1]
theorem step_put_string {ops : Array Oper} {o : Oper} {a : Act} {wo wx : World} {K : Act → World → Prop} {Q : Exit → Act → World → Prop} {E : Prop} (hg : o.guard = none) (d x : Operand)
    (hop : o.op = Op.call { callee := Callee.builtin Builtin.copy, args := #[d, x], argTypes := #[32, 9] }) (g n i off dLen dCap : Nat) (L S : List UInt8) (s : ByteArray) (h : PutSt wo g n L S (i + s.size) wx)
    (hd : a.eval d = .slice (some ⟨g, off, none⟩) dLen dCap) (hx : a.eval x = .string s) (hoff : off = i ∨ s.size = 0) (hle : s.size ≤ dLen)
    (hK : ∀ w3, PutSt wo g n L (s.data.toList ++ S) i w3 → K (a.put o.dst (goInt s.size)) w3) : if Region.wanted o (yielded ops a.tmps) = true then Oper.wp Tryd.prog o a wx K Q else E := by
  have h1 := h.fit
  have h2 := h.len
  have hsl : s.data.toList.length = s.size := Array.length_toList
  have hpl : (put L (i + s.size) S).length = L.length := put_length _ _ _ (by omega)
  refine Go.step_copy_string hg d x 32 9 hop 5 Tryd.underlying32 sizeU8 g off dLen dCap hd s hx hle (fun j hj => ?_) (fun j _ => h.blk.frozen _) (hK _ ?_)
  · rcases hoff with rfl | h0
    · rw [blk_cell h.blk (off + j) (by omega)]; rfl
    · omega
  · rcases hoff with rfl | h0
    · refine ⟨h.fit, by rw [List.length_append, hsl]; omega, ?_, Go.below_setCells (Nat.le_refl g) _ _ _ h.only⟩
      have hb := blk_setCells s.data.toList off _ wx h.blk (by rw [hsl, hpl]; omega)
      rw [put_front L off (off + s.size) _ _ (by rw [hsl]) (by omega)] at hb
      exact hb
    · have he : s.data.toList = [] := List.eq_nil_of_length_eq_zero (by omega)
      have hi0 : i + s.size = i := by omega
      rw [hi0] at h
      rw [he]
      exact h
theorem data_len {w : World} {B n : Nat} {A : Option Addr} {b : List UInt8} (h : Reads w B 1 A n (u8s b)) : b.length = n := by
  have := h.1
  simp only [u8s_length, Nat.mul_one] at this
  exact this
theorem step_put_bytes {ops : Array Oper} {o : Oper} {a : Act} {wo wx : World} {K : Act → World → Prop} {Q : Exit → Act → World → Prop} {E : Prop} (hg : o.guard = none) (d x : Operand)
    (hop : o.op = Op.call { callee := Callee.builtin Builtin.copy, args := #[d, x], argTypes := #[32, 32] }) (g n i B m off dLen dCap sCap : Nat) (A : Option Addr) (L S b : List UInt8) (h : PutSt wo g n L S (i + m) wx)
    (hd : a.eval d = .slice (some ⟨g, off, none⟩) dLen dCap) (hx : a.eval x = .slice A m sCap) (hr : Reads wx B 1 A m (u8s b)) (hoff : off = i ∨ m = 0) (hle : m ≤ dLen)
    (hK : ∀ w3, PutSt wo g n L (b ++ S) i w3 → K (a.put o.dst (goInt m)) w3) : if Region.wanted o (yielded ops a.tmps) = true then Oper.wp Tryd.prog o a wx K Q else E := by
  have h1 := h.fit
  have h2 := h.len
  have hbl := data_len hr
  have hpl : (put L (i + m) S).length = L.length := put_length _ _ _ (by omega)
  have hgo : goInt ((u8s b).length : Nat) = goInt m := by rw [u8s_length, hbl]
  refine Go.step_copy_splice hg d x 32 32 hop 5 Tryd.underlying32 (by kernel_rfl) (some ⟨g, off, none⟩) A dLen dCap m sCap hd hx g i (u8s (put L (i + m) S)) 5 h.blk (u8s b) (by rw [u8s_length, hbl]; exact (Nat.min_eq_left hle).symm) (fun hp => ?_) (by rw [u8s_length, u8s_length, hbl, hpl]; omega) (u8s_one b) g wx (Below.refl _ _) (Nat.le_refl _) (fun w' hh hb => ?_)
  · rw [u8s_length, hbl] at hp
    obtain ⟨ad, e, _, hc⟩ := hr.2 hp
    rcases hoff with rfl | h0
    · exact ⟨rfl, ad, e, hc⟩
    · omega
  · rw [hgo]
    exact hK w' (h.copy (by omega) hh.out hb)
/-- The bytes' number comes back, and no error; the bytes lie at the end. -/
structure PutAll (w : World) (g n : Nat) (L S : List UInt8) (r : Ending) (w' : World) : Prop where
  ret : r = .returned (.tuple #[.int .i64 (S.length : Nat), .nilIface])
  st : PutSt w g n L S (n - S.length) w'

end Go.Proofs.YtocdbecakefnnaaDoor
