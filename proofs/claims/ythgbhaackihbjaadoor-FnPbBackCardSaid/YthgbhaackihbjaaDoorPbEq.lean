/- Equal of a link's message: whether two links tell the same. -/
import Derived.BigQuiet
import Derived.Test.YthgbhaackihbjaaDoorPbH
namespace Go.Proofs.YthgbhaackihbjaaDoor
open Go.RowKit

theorem bytesEqual_any (A1 A2 : Option Addr) (n1 c1 n2 c2 B1 B2 : Nat) (l1 l2 : List UInt8) (w : World) (h1 : Reads w B1 1 A1 n1 (u8s l1)) (h2 : Reads w B2 1 A2 n2 (u8s l2)) :
    Calls Tryd.prog 38 #[.slice A1 n1 c1, .slice A2 n2 c2] w fun e w' => e = .returned (.bool (l1 == l2)) ∧ w' = w := by
  have k1 := run_convert_reads (P := Tryd.prog) w 22 5 Tryd.underlying22 Tryd.underlying5 B1 A1 n1 c1 l1 h1 9 Tryd.underlying9
  have k2 := run_convert_reads (P := Tryd.prog) w 22 5 Tryd.underlying22 Tryd.underlying5 B2 A2 n2 c2 l2 h2 9 Tryd.underlying9
  clear h1 h2
  go_enter Tryd.func38, Tryd.ntmps38
  go_wp2
  go_ret
  exact ⟨rfl, rfl⟩

theorem nilEqual_any (w : World) : Calls Tryd.prog 38 #[.slice none 0 0, .slice none 0 0] w fun e w' => e = .returned (.bool true) ∧ w' = w :=
  bytesEqual_any none none 0 0 0 0 0 0 [] [] w Reads.none_ Reads.none_
theorem same_bytes {s s' : ByteArray} (h : (s.toList == s'.toList) = true) : s = s' := by
  rw [ByteArray.toList_eq, ByteArray.toList_eq] at h
  exact ByteArray.ext (Array.toList_inj.mp (eq_of_beq h))
def linkEq (m1 m2 : ML) : Bool := (optBytes m1.hash == optBytes m2.hash) && decide (m1.name = m2.name) && decide (m1.size = m2.size)
set_option maxRecDepth 100000 in
set_option maxHeartbeats 4000000 in
theorem linkEq_any (p q lo B lo' B' : Nat) (m1 m2 : ML) (w : World) (h1 : LinkObj w lo B p m1) (h2 : LinkObj w lo' B' q m2) :
    Calls Tryd.prog 37 #[.pointer (some ⟨p, 0, none⟩), .iface 64 (.pointer (some ⟨q, 0, none⟩))] w fun e w' => e = .returned (.bool (linkEq m1 m2)) ∧ ∃ k, w' = w.drewN k := by
  obtain ⟨hash1, name1, size1⟩ := m1
  obtain ⟨hash2, name2, size2⟩ := m2
  obtain ⟨_, _, ⟨v0, a0, b0⟩, ⟨v1, a1, b1⟩, ⟨v2, a2, b2⟩, un⟩ := h1
  obtain ⟨_, _, ⟨v0', a0', b0'⟩, ⟨v1', a1', b1'⟩, ⟨v2', a2', b2'⟩, un'⟩ := h2
  obtain ⟨A, c, rfl, _, _, hr, _⟩ := b0
  obtain ⟨A', c', rfl, _, _, hr', _⟩ := b0'
  simp only at b1 b2 b1' b2' hr hr'
  simp only [linkEq]
  have HR := Lib.hid hr
  have HR' := Lib.hid hr'
  clear hr hr'
  generalize optBytes hash1 = ha at HR a0 ⊢
  generalize optBytes hash2 = hb at HR' a0' ⊢
  have hta : (Instr.typeAssert (.iface 64 (.pointer (some ⟨q, 0, none⟩))) 20 64 true).run Tryd.prog w = .ok (.tuple #[.pointer (some ⟨q, 0, none⟩), .bool true]) w := by kernel_rfl
  go_enter Tryd.func37, Tryd.ntmps37
  go_wp2_with fail
  go_quiet (first | (go_at_call 38; refine Calls.quiet_of_same (bytesEqual_any _ _ _ _ _ _ _ _ ha hb _ (HR.out.drewN _) (HR'.out.drewN _))))
  cases hq : ha == hb with
  | false =>
    go_wp2
    go_ret
    exact ⟨by simp [hq], _, rfl⟩
  | true =>
    rcases b1 with ⟨rfl, rfl⟩ | ⟨s, q1, rfl, _, _, rfl, hs1⟩ <;> rcases b1' with ⟨rfl, rfl⟩ | ⟨s', q1', rfl, _, _, rfl, hs1'⟩
    · rcases b2 with ⟨rfl, rfl⟩ | ⟨y, q2, rfl, hy, _, _, rfl, hs2⟩ <;> rcases b2' with ⟨rfl, rfl⟩ | ⟨y', q2', rfl, hy', _, _, rfl, hs2'⟩
      · go_wp2_with fail
        go_quiet (first | (go_at_call 38; refine (nilEqual_any _).mono (fun e w' h => ⟨h.1, _, h.2⟩)) | (go_at_call 38; refine Calls.quiet_of_same (nilEqual_any _)))
        go_wp2
        go_ret
        exact ⟨by simp, by first | exact ⟨_, rfl⟩ | exact ⟨_, World.drewN_drewN _ _ _⟩⟩
      · go_wp2
        go_ret
        exact ⟨by simp, by first | exact ⟨_, rfl⟩ | exact ⟨_, World.drewN_drewN _ _ _⟩⟩
      · go_wp2
        go_ret
        exact ⟨by simp, by first | exact ⟨_, rfl⟩ | exact ⟨_, World.drewN_drewN _ _ _⟩⟩
      · go_wp2_with fail
        go_quiet (fail)
        cases hyy : ((y : Int) != (y' : Int))
        · have hy2 : y = y' := by simp at hyy; omega
          subst hy2
          go_wp2_with fail
          go_quiet (first | (go_at_call 38; refine (nilEqual_any _).mono (fun e w' h => ⟨h.1, _, h.2⟩)) | (go_at_call 38; refine Calls.quiet_of_same (nilEqual_any _)))
          go_wp2
          go_ret
          exact ⟨by simp, by first | exact ⟨_, rfl⟩ | exact ⟨_, World.drewN_drewN _ _ _⟩⟩
        · have hy2 : ¬ y = y' := by simp at hyy; omega
          go_wp2
          go_ret
          exact ⟨by simp, by first | exact ⟨_, rfl⟩ | exact ⟨_, World.drewN_drewN _ _ _⟩⟩
    · go_wp2
      go_ret
      exact ⟨by simp, by first | exact ⟨_, rfl⟩ | exact ⟨_, World.drewN_drewN _ _ _⟩⟩
    · go_wp2
      go_ret
      exact ⟨by simp, by first | exact ⟨_, rfl⟩ | exact ⟨_, World.drewN_drewN _ _ _⟩⟩
    · go_wp2_with fail
      go_quiet (fail)
      cases hss : s.toList == s'.toList
      · have hne : ¬ s = s' := fun e => by rw [e] at hss; simp at hss
        go_wp2
        go_ret
        exact ⟨by simp [hne], by first | exact ⟨_, rfl⟩ | exact ⟨_, World.drewN_drewN _ _ _⟩⟩
      · obtain rfl := same_bytes hss
        rcases b2 with ⟨rfl, rfl⟩ | ⟨y, q2, rfl, hy, _, _, rfl, hs2⟩ <;> rcases b2' with ⟨rfl, rfl⟩ | ⟨y', q2', rfl, hy', _, _, rfl, hs2'⟩
        · go_wp2_with fail
          go_quiet (first | (go_at_call 38; refine (nilEqual_any _).mono (fun e w' h => ⟨h.1, _, h.2⟩)) | (go_at_call 38; refine Calls.quiet_of_same (nilEqual_any _)))
          go_wp2
          go_ret
          exact ⟨by simp, by first | exact ⟨_, rfl⟩ | exact ⟨_, World.drewN_drewN _ _ _⟩⟩
        · go_wp2
          go_ret
          exact ⟨by simp, by first | exact ⟨_, rfl⟩ | exact ⟨_, World.drewN_drewN _ _ _⟩⟩
        · go_wp2
          go_ret
          exact ⟨by simp, by first | exact ⟨_, rfl⟩ | exact ⟨_, World.drewN_drewN _ _ _⟩⟩
        · go_wp2_with fail
          go_quiet (fail)
          cases hyy : ((y : Int) != (y' : Int))
          · have hy2 : y = y' := by simp at hyy; omega
            subst hy2
            go_wp2_with fail
            go_quiet (first | (go_at_call 38; refine (nilEqual_any _).mono (fun e w' h => ⟨h.1, _, h.2⟩)) | (go_at_call 38; refine Calls.quiet_of_same (nilEqual_any _)))
            go_wp2
            go_ret
            exact ⟨by simp, by first | exact ⟨_, rfl⟩ | exact ⟨_, World.drewN_drewN _ _ _⟩⟩
          · have hy2 : ¬ y = y' := by simp at hyy; omega
            go_wp2
            go_ret
            exact ⟨by simp, by first | exact ⟨_, rfl⟩ | exact ⟨_, World.drewN_drewN _ _ _⟩⟩
end Go.Proofs.YthgbhaackihbjaaDoor
