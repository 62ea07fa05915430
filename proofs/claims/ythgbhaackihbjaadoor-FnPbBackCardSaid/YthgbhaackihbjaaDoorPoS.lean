/- What was read is the same as what it was written from. -/
import Derived.Test.YthgbhaackihbjaaDoorPnY
import Derived.Test.YthgbhaackihbjaaDoorPbQ
namespace Go.Proofs.YthgbhaackihbjaaDoor
open Go.RowKit

theorem plain_ml (l : PLk) : sameLink (plML (ml l)) l = true := by
  obtain ⟨hh, hn, hs, hash, name, size⟩ := l
  cases hh <;> cases hn <;> cases hs <;> simp [sameLink, plML, ml, plain, optBytes]
theorem plain_links (ls : List PLk) : sameLinks (ls.map fun l => plML (ml l)) ls = true := by
  induction ls with
  | nil => rfl
  | cons l t ih =>
    show (sameLink (plML (ml l)) l && sameLinks (t.map fun l => plML (ml l)) t) = true
    rw [plain_ml, ih]
    rfl
theorem same_read (st : PNd) : sameNode (plMN (mn st)) st = true := by
  obtain ⟨has, data, links⟩ := st
  have h := plain_links links
  cases has <;> simp [sameNode, plMN, mn, optBytes, h, Function.comp_def]
theorem NodeArg.more {w : World} {B B' : Nat} {x : PNd} {v : Value} (h : NodeArg w B x v) (hb : B ≤ B') : NodeArg w B' x v := by
  obtain ⟨A, n, c, A2, n2, c2, h0, h1, h2, h3, h4, h5⟩ := h.ex
  exact ⟨A, n, c, A2, n2, c2, h0, h1, h2, h3.more hb, h4, h5.more hb⟩
theorem mn_pl (m : MN) : mn (plMN m) = m := by
  obtain ⟨links, data⟩ := m
  have e : ∀ l : ML, ml (plML l) = l := fun l => by
    obtain ⟨h, n, s⟩ := l
    cases h <;> cases n <;> cases s <;> rfl
  have e2 : (links.map plML).map ml = links := by rw [List.map_map]; exact (List.map_congr_left fun l _ => e l).trans (List.map_id _)
  cases data <;> simp [mn, plMN, e2, optBytes]
theorem linkEq_self (m : ML) : linkEq m m = true := by simp [linkEq]
theorem linksEq_self (ls : List ML) : linksEq ls ls = true := by
  induction ls with
  | nil => rfl
  | cons l t ih =>
    show (linkEq l l && linksEq t t) = true
    rw [linkEq_self, ih]
    rfl
theorem nodeEq_self (m : MN) : nodeEq m m = true := by simp [nodeEq, linksEq_self]
theorem small_pl {x : PNd} (h : Small x) : Small (plMN (mn x)) := by
  refine ⟨?_, ?_, fun l hl => ?_, fun l hl => ?_⟩
  · show (optBytes (if x.has then some x.data else none)).length ≤ 500
    split
    · exact h.d
    · exact Nat.zero_le _
  · show ((x.links.map ml).map plML).length ≤ 20
    rw [List.length_map, List.length_map]
    exact h.k
  · obtain ⟨m, hm, rfl⟩ := List.mem_map.1 hl
    obtain ⟨y, hy, rfl⟩ := List.mem_map.1 hm
    show (optBytes (if y.hh then some y.hash else none)).length ≤ 100
    split
    · exact h.h y hy
    · exact Nat.zero_le _
  · obtain ⟨m, hm, rfl⟩ := List.mem_map.1 hl
    obtain ⟨y, hy, rfl⟩ := List.mem_map.1 hm
    show ((if y.hn then some y.name else none).getD ByteArray.empty).size ≤ 100
    split
    · exact h.n y hy
    · exact Nat.zero_le _
end Go.Proofs.YthgbhaackihbjaaDoor
