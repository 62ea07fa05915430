/- The plain law: what is written is read back. -/
import Derived.Test.YthgbhaackihbjaaDoorPoP
import Derived.Test.YthgbhaackihbjaaDoorPbG
import Derived.Test.YthgbhaackihbjaaDoorPbP
namespace Go.Proofs.YthgbhaackihbjaaDoor
open Go.RowKit

theorem byte_of {n : Nat} (h : n < 256) : (UInt8.ofNat n).toNat = n := UInt8.toNat_ofNat_of_lt' h
theorem vi_uv (n : Nat) (t : List UInt8) : vi (uv n ++ t) = some (n, (uv n).length) := by
  induction n using Nat.strongRecOn with
  | ind n ih =>
    by_cases h : n < 128
    · rw [uv_small h]
      show vi (UInt8.ofNat n :: t) = some (n, 1)
      rw [vi, byte_of (by omega), if_pos h]
    · rw [uv_great h, List.cons_append, vi, byte_of (by omega), if_neg (by omega), ih (n / 128) (by omega)]
      simp only [Option.map_some, List.length_cons, Option.some.injEq, Prod.mk.injEq, and_true]
      omega
theorem run_uv10 (n r : Nat) (t : List UInt8) (hr : r ≤ 9) (h : n < 2 ^ (64 - 7 * r)) : run1 10 r (uv n ++ t) = true := by
  induction n using Nat.strongRecOn generalizing r with
  | ind n ih =>
    by_cases h8 : n < 128
    · rw [uv_small h8]
      show run1 10 r (UInt8.ofNat n :: t) = true
      rw [run1, byte_of (by omega), if_pos h8]
      by_cases h9 : r = 9
      · subst h9; simp at h ⊢; omega
      · simp; omega
    · have hr8 : r ≤ 8 := by
        rcases Nat.lt_or_ge r 9 with h9 | h9
        · omega
        · obtain rfl : r = 9 := by omega
          simp at h; omega
      rw [uv_great h8, List.cons_append, run1, byte_of (by omega), if_neg (by omega), ih (n / 128) (by omega) (r + 1) (by omega) ?_]
      · simp; omega
      · have e : 2 ^ (64 - 7 * r) = 2 ^ (64 - 7 * (r + 1)) * 128 := by rw [show 64 - 7 * r = (64 - 7 * (r + 1)) + 7 by omega, Nat.pow_add]
        rw [e] at h
        exact Nat.div_lt_of_lt_mul (by rw [Nat.mul_comm]; exact h)
theorem run_uv9 (n r : Nat) (t : List UInt8) (hr : r ≤ 8) (h : n < 2 ^ (63 - 7 * r)) : run1 9 r (uv n ++ t) = true := by
  induction n using Nat.strongRecOn generalizing r with
  | ind n ih =>
    by_cases h8 : n < 128
    · rw [uv_small h8]
      show run1 9 r (UInt8.ofNat n :: t) = true
      rw [run1, byte_of (by omega), if_pos h8]
      simp; omega
    · have hr8 : r ≤ 7 := by
        rcases Nat.lt_or_ge r 8 with h9 | h9
        · omega
        · obtain rfl : r = 8 := by omega
          simp at h; omega
      rw [uv_great h8, List.cons_append, run1, byte_of (by omega), if_neg (by omega), ih (n / 128) (by omega) (r + 1) (by omega) ?_]
      · simp; omega
      · have e : 2 ^ (63 - 7 * r) = 2 ^ (63 - 7 * (r + 1)) * 128 := by rw [show 63 - 7 * r = (63 - 7 * (r + 1)) + 7 by omega, Nat.pow_add]
        rw [e] at h
        exact Nat.div_lt_of_lt_mul (by rw [Nat.mul_comm]; exact h)
/-- A field that is written is read. -/
theorem pt_fieldB {key : UInt8} (b t : List UInt8) (hk : key.toNat < 128) (h2 : key.toNat % 8 = 2) : pt (fieldB key b ++ t) = some ⟨key.toNat / 8, 2, 0, b, (fieldB key b).length⟩ := by
  have e : fieldB key b ++ t = key :: (uv b.length ++ (b ++ t)) := by simp [fieldB, List.append_assoc]
  have h1 : vi (key :: (uv b.length ++ (b ++ t))) = some (key.toNat, 1) := by rw [vi, if_pos hk]
  have hw : vi ((key :: (uv b.length ++ (b ++ t))).drop 1) = some (b.length, (uv b.length).length) := vi_uv _ _
  have hl : b.length ≤ (key :: (uv b.length ++ (b ++ t))).length - 1 - (uv b.length).length := by simp only [List.length_cons, List.length_append]; omega
  rw [e, pt_bytes h1 hw h2 hl]
  have hd : ((key :: (uv b.length ++ (b ++ t))).drop (1 + (uv b.length).length)).take b.length = b := by
    rw [Nat.add_comm, List.drop_succ_cons, List.drop_left]; simp
  rw [hd]
  congr 2
  simp [fieldB]; omega
theorem pt_fieldN {key : UInt8} (n : Nat) (t : List UInt8) (hk : key.toNat < 128) (h0 : key.toNat % 8 = 0) : pt (fieldN key n ++ t) = some ⟨key.toNat / 8, 0, n, [], (fieldN key n).length⟩ := by
  have h1 : vi (key :: (uv n ++ t)) = some (key.toNat, 1) := by rw [vi, if_pos hk]
  have hw : vi ((key :: (uv n ++ t)).drop 1) = some (n, (uv n).length) := vi_uv _ _
  show pt (key :: (uv n ++ t)) = _
  rw [pt_num h1 hw h0]
  congr 2
  simp [fieldN]; omega
theorem ok_fieldB {key : UInt8} (b t : List UInt8) (hk : key.toNat < 128) (hb : b.length < 2 ^ 63) : FieldOk (fieldB key b ++ t) ∧ vi (fieldB key b ++ t) = some (key.toNat, 1) := by
  have e : fieldB key b ++ t = key :: (uv b.length ++ (b ++ t)) := by simp [fieldB, List.append_assoc]
  have h1 : vi (key :: (uv b.length ++ (b ++ t))) = some (key.toNat, 1) := by rw [vi, if_pos hk]
  rw [e]
  refine ⟨⟨by rw [run1, if_pos hk]; simp, fun k j hv => ?_⟩, h1⟩
  rw [h1] at hv
  obtain ⟨rfl, rfl⟩ := Prod.mk.inj (Option.some.inj hv)
  show run1 _ 0 (uv b.length ++ (b ++ t)) = true
  split
  · exact run_uv10 _ _ _ (by omega) (by simp; omega)
  · exact run_uv9 _ _ _ (by omega) (by simpa using hb)
theorem ok_fieldN {key : UInt8} (n : Nat) (t : List UInt8) (hk : key.toNat = 24) (hn : n < 18446744073709551616) : FieldOk (fieldN key n ++ t) ∧ vi (fieldN key n ++ t) = some (24, 1) := by
  have h1 : vi (key :: (uv n ++ t)) = some (24, 1) := by rw [vi, if_pos (by omega), hk]
  show FieldOk (key :: (uv n ++ t)) ∧ vi (key :: (uv n ++ t)) = _
  refine ⟨⟨by rw [run1, if_pos (by omega)]; simp, fun k j hv => ?_⟩, h1⟩
  rw [h1] at hv
  obtain ⟨rfl, rfl⟩ := Prod.mk.inj (Option.some.inj hv)
  show run1 (if 24 = 24 then 10 else 9) 0 (uv n ++ t) = true
  rw [if_pos rfl]
  exact run_uv10 _ _ _ (by omega) (by simpa using hn)

section
variable {S : Type} {up : S → Fld → Option S}
theorem fd_enough : ∀ (f g : Nat) (st : S) (xs : List UInt8), xs.length ≤ f → xs.length ≤ g → fd up f st xs = fd up g st xs := by
  intro f
  induction f with
  | zero =>
    intro g st xs h1 h2
    obtain rfl : xs = [] := List.length_eq_zero_iff.1 (by omega)
    rw [fd_nil, fd_nil]
  | succ f ih =>
    intro g st xs h1 h2
    by_cases hne : xs = []
    · subst hne; rw [fd_nil, fd_nil]
    · have hx : 0 < xs.length := List.length_pos_iff.2 hne
      cases hp : pt xs with
      | none => rw [fd_torn hp hx h1, fd_torn hp hx h2]
      | some t =>
        have hz := pt_size hp
        cases hu : up st t with
        | none => rw [fd_bad hp hu h1, fd_bad hp hu h2]
        | some s2 =>
          obtain ⟨g, rfl⟩ : ∃ k, g = k + 1 := ⟨g - 1, by omega⟩
          rw [fd_step hp hu h1, fd_step hp hu h2]
          exact ih g s2 _ (by rw [List.length_drop]; omega) (by rw [List.length_drop]; omega)
/-- What a message tells, with enough steps. -/
def tell (up : S → Fld → Option S) (st : S) (xs : List UInt8) : Option S := fd up xs.length st xs
theorem tell_nil (st : S) : tell up st [] = some st := fd_nil _ _
theorem tell_field {x t : List UInt8} {st st' : S} {f : Fld} (h : pt (x ++ t) = some f) (hs : f.size = x.length) (hu : up st f = some st') : tell up st (x ++ t) = tell up st' t := by
  have hz := pt_size h
  obtain ⟨k, hk⟩ : ∃ k, (x ++ t).length = k + 1 := ⟨(x ++ t).length - 1, by omega⟩
  unfold tell
  rw [hk, fd_step h hu (by omega), hs, List.drop_left]
  exact fd_enough _ _ _ _ (by rw [List.length_append] at hk; omega) (by omega)
end
theorem k10 : (10 : UInt8).toNat = 10 := rfl
theorem k18 : (18 : UInt8).toNat = 18 := rfl
theorem k24 : (24 : UInt8).toNat = 24 := rfl
theorem name_back (s : ByteArray) : (⟨s.data.toList.toArray⟩ : ByteArray) = s := by simp
/-- A link, read back. -/
theorem link_size (st : PLk) (o : Option Nat) : tell upL st (optN 24 o) = some (match o with | some n => { st with hs := true, size := n } | none => st) := by
  cases o with
  | none => exact tell_nil _
  | some n =>
    have h := pt_fieldN (key := 24) n [] (by decide) (by decide)
    have h2 : tell upL st (fieldN 24 n ++ []) = tell upL { st with hs := true, size := n } [] := tell_field h rfl (by simp [upL, k24])
    rw [List.append_nil] at h2
    exact h2.trans (tell_nil _)
theorem link_name (st : PLk) (o : Option ByteArray) (t : List UInt8) : tell upL st (optF 18 (nameB o) ++ t) = tell upL (match o with | some s => { st with hn := true, name := s } | none => st) t := by
  cases o with
  | none => rfl
  | some s => exact tell_field (pt_fieldB (key := 18) s.data.toList t (by decide) (by decide)) rfl (by simp [upL, k18])
theorem link_hash (st : PLk) (o : Option (List UInt8)) (t : List UInt8) : tell upL st (optF 10 o ++ t) = tell upL (match o with | some s => { st with hh := true, hash := s } | none => st) t := by
  cases o with
  | none => rfl
  | some s => exact tell_field (pt_fieldB (key := 10) s t (by decide) (by decide)) rfl (by simp [upL, k10])
theorem link_back (l : PLk) : linkOf (linkBytes (ml l)) = some (plain l) := by
  show tell upL PLk.zero (linkBytes (ml l)) = _
  unfold linkBytes
  rw [link_hash, link_name, link_size]
  obtain ⟨hh, hn, hs, hash, name, size⟩ := l
  cases hh <;> cases hn <;> cases hs <;> rfl
theorem link_ours (l : PLk) (h1 : l.hash.length ≤ 100) (h2 : l.name.size ≤ 100) (h3 : l.size < 18446744073709551616) : OurL (linkBytes (ml l)) := by
  have hz : OurL (optN 24 (ml l).size) := by
    obtain ⟨hh, hn, hs, hash, name, size⟩ := l
    cases hs with
    | false => exact .nil
    | true =>
      have h := ok_fieldN (key := 24) size [] rfl h3
      have hp := pt_fieldN (key := 24) size [] (by decide) (by decide)
      rw [List.append_nil] at h hp
      exact .step h.1 h.2 (by unfold KeyL; omega) hp trivial (by show OurL ((fieldN 24 size).drop (fieldN 24 size).length); rw [List.drop_length]; exact .nil)
  have hn : ∀ (key : UInt8) (b t : List UInt8), key.toNat < 128 → key.toNat % 8 = 2 → KeyL key.toNat → b.length ≤ 100 → OurL t → OurL (fieldB key b ++ t) := fun key b t k1 k2 k3 hb ht => by
    have h := ok_fieldB (key := key) b t k1 (by omega)
    exact .step h.1 h.2 k3 (pt_fieldB b t k1 k2) trivial (by show OurL ((fieldB key b ++ t).drop (fieldB key b).length); rw [List.drop_left]; exact ht)
  have hnm : OurL (optF 18 (nameB (ml l).name) ++ optN 24 (ml l).size) := by
    obtain ⟨hh, hn', hs, hash, name, size⟩ := l
    cases hn' with
    | false => exact hz
    | true => exact hn 18 _ _ (by decide) (by decide) (by rw [k18]; unfold KeyL; omega) (by show name.data.toList.length ≤ 100; have : name.data.toList.length = name.size := Array.length_toList; have h2' : name.size ≤ 100 := h2; omega) hz
  unfold linkBytes
  obtain ⟨hh, hn', hs, hash, name, size⟩ := l
  cases hh with
  | false => exact hnm
  | true => exact hn 10 _ _ (by decide) (by decide) (by rw [k10]; unfold KeyL; omega) h1 hnm
/-- A node, read back. -/
def plainN (x : PNd) : PNd := ⟨x.has, if x.has then x.data else [], x.links.map plain⟩
theorem node_links (st : PNd) (ls : List PLk) (t : List UInt8) : tell upN st (linksBytes (ls.map ml) ++ t) = tell upN { st with links := st.links ++ ls.map plain } t := by
  induction ls generalizing st with
  | nil => simp [linksBytes]
  | cons l ls ih =>
    have e : linksBytes ((l :: ls).map ml) ++ t = fieldB 18 (linkBytes (ml l)) ++ (linksBytes (ls.map ml) ++ t) := by simp [linksBytes, List.append_assoc]
    have h : tell upN st (fieldB 18 (linkBytes (ml l)) ++ (linksBytes (ls.map ml) ++ t)) = tell upN { st with links := st.links ++ [plain l] } (linksBytes (ls.map ml) ++ t) := tell_field (pt_fieldB (key := 18) _ _ (by decide) (by decide)) rfl (by simp [upN, k18, link_back])
    rw [e, h, ih]
    simp
theorem node_back (x : PNd) : nodeOf (nodeBytes (mn x)) = some (plainN x) := by
  show tell upN PNd.zero (nodeBytes (mn x)) = _
  unfold nodeBytes
  show tell upN PNd.zero (linksBytes (x.links.map ml) ++ optF 10 (mn x).data) = _
  rw [node_links]
  obtain ⟨has, data, links⟩ := x
  cases has with
  | false => rfl
  | true =>
    have h : tell upN { PNd.zero with links := PNd.zero.links ++ links.map plain } (fieldB 10 data ++ []) = tell upN ⟨true, data, PNd.zero.links ++ links.map plain⟩ [] := tell_field (pt_fieldB (key := 10) data [] (by decide) (by decide)) rfl (by simp [upN, k10])
    rw [List.append_nil] at h
    exact h.trans (tell_nil _)
theorem linkBytes_lt (l : PLk) (h1 : l.hash.length ≤ 100) (h2 : l.name.size ≤ 100) (h3 : l.size < 18446744073709551616) : (linkBytes (ml l)).length ≤ 1000 := by
  obtain ⟨hh, hn, hs, hash, name, size⟩ := l
  have hu := uv_le size h3
  have h4 : name.data.toList.length = name.size := Array.length_toList
  have h1' : hash.length ≤ 100 := h1
  have e1 : (optF 10 (if hh then some hash else none)).length ≤ 102 := by
    cases hh with
    | false => simp [optF]
    | true =>
      show (fieldB 10 hash).length ≤ _
      rw [fieldB_length, uv_short (by omega)]
      omega
  have e2 : (optF 18 (nameB (if hn then some name else none))).length ≤ 102 := by
    cases hn with
    | false => simp [optF, nameB]
    | true =>
      show (fieldB 18 name.data.toList).length ≤ _
      rw [fieldB_length, uv_short (by simp at h2; omega)]
      simp at h2; omega
  have e3 : (optN 24 (if hs then some size else none)).length ≤ 11 := by cases hs <;> simp [optN, fieldN]; omega
  simp only [linkBytes, ml, List.length_append]
  omega
theorem node_ours (x : PNd) (h : Small x) (h3 : ∀ l ∈ x.links, l.size < 18446744073709551616) : OurN (nodeBytes (mn x)) := by
  have hd : OurN (optF 10 (mn x).data) := by
    obtain ⟨has, data, links⟩ := x
    cases has with
    | false => exact .nil
    | true =>
      have h1 : data.length ≤ 500 := h.d
      have h := ok_fieldB (key := 10) data [] (by decide) (by omega)
      have hp := pt_fieldB (key := 10) data [] (by decide) (by decide)
      rw [List.append_nil] at h hp
      exact .step h.1 h.2 (by rw [k10]; unfold KeyN; omega) hp (by rw [k10]; intro e; omega) (by show OurN ((fieldB 10 data).drop (fieldB 10 data).length); rw [List.drop_length]; exact .nil)
  have key : ∀ (ls : List PLk) (t : List UInt8), (∀ l ∈ ls, l.hash.length ≤ 100 ∧ l.name.size ≤ 100 ∧ l.size < 18446744073709551616) → OurN t → OurN (linksBytes (ls.map ml) ++ t) := by
    intro ls t
    induction ls with
    | nil => intro _ ht; exact ht
    | cons l ls ih =>
      intro ha ht
      obtain ⟨a1, a2, a3⟩ := ha l (List.mem_cons_self)
      have e : linksBytes ((l :: ls).map ml) ++ t = fieldB 18 (linkBytes (ml l)) ++ (linksBytes (ls.map ml) ++ t) := by simp [linksBytes, List.append_assoc]
      have hr := ih (fun y hy => ha y (List.mem_cons_of_mem _ hy)) ht
      have hk := ok_fieldB (key := 18) (linkBytes (ml l)) (linksBytes (ls.map ml) ++ t) (by decide) (Nat.lt_of_le_of_lt (linkBytes_lt l a1 a2 a3) (by omega))
      rw [e]
      exact .step hk.1 hk.2 (by rw [k18]; unfold KeyN; omega) (pt_fieldB _ _ (by decide) (by decide)) (fun _ => link_ours l a1 a2 a3) (by show OurN ((fieldB 18 (linkBytes (ml l)) ++ _).drop (fieldB 18 (linkBytes (ml l))).length); rw [List.drop_left]; exact hr)
  exact key x.links _ (fun l hl => ⟨h.h l hl, h.n l hl, h3 l hl⟩) hd
theorem node_len (x : PNd) (h : Small x) (h3 : ∀ l ∈ x.links, l.size < 18446744073709551616) : (nodeBytes (mn x)).length ≤ 1000000 := by
  have hl : (linksBytes (x.links.map ml)).length ≤ 1010 * x.links.length := by
    have : ∀ ls : List PLk, (∀ l ∈ ls, l.hash.length ≤ 100 ∧ l.name.size ≤ 100 ∧ l.size < 18446744073709551616) → (linksBytes (ls.map ml)).length ≤ 1010 * ls.length := by
      intro ls
      induction ls with
      | nil => intro _; simp [linksBytes]
      | cons l ls ih =>
        intro ha
        obtain ⟨a1, a2, a3⟩ := ha l (List.mem_cons_self)
        have hr := ih (fun y hy => ha y (List.mem_cons_of_mem _ hy))
        have hb := linkBytes_lt l a1 a2 a3
        have e : linksBytes ((l :: ls).map ml) = fieldB 18 (linkBytes (ml l)) ++ linksBytes (ls.map ml) := by simp [linksBytes]
        have := uv_two (n := (linkBytes (ml l)).length) (by omega)
        rw [e, List.length_append, fieldB_length, List.length_cons]
        omega
    exact this _ (fun l hl => ⟨h.h l hl, h.n l hl, h3 l hl⟩)
  have hk := h.k
  have hdd : (optF 10 (mn x).data).length ≤ 1000 := by
    have h1 := h.d
    obtain ⟨has, data, links⟩ := x
    cases has with
    | false => simp [mn, optF]
    | true =>
      show (fieldB 10 data).length ≤ _
      have := uv_two (n := data.length) (by simp at h1; omega)
      rw [fieldB_length]
      simp at h1
      omega
  show (linksBytes (x.links.map ml) ++ optF 10 (mn x).data).length ≤ _
  rw [List.length_append]
  omega
theorem ml_plain (l : PLk) : ml (plain l) = ml l := by
  obtain ⟨hh, hn, hs, hash, name, size⟩ := l
  cases hh <;> cases hn <;> cases hs <;> rfl
theorem mn_plain (x : PNd) : mn (plainN x) = mn x := by
  obtain ⟨has, data, links⟩ := x
  have e : (links.map plain).map ml = links.map ml := by rw [List.map_map]; exact List.map_congr_left fun l _ => ml_plain l
  cases has <;> simp [mn, plainN, e]
end Go.Proofs.YthgbhaackihbjaaDoor
