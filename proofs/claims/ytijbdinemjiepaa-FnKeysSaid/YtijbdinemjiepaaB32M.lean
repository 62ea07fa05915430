/- DecodeString; dshelp.BinaryFromDsKey; impl.KeyBytes. -/
import Derived.Deep.RegionHeld3
import Derived.Deep.Cut
import Derived.Test.YtijbdinemjiepaaB32L
namespace Go.Proofs.Ytijbdinemjiepaa
open Go.RowKit Go.Lib

/-- A slice that holds the bytes l. -/
def Told (w0 : World) (l : List UInt8) (v : Value) (w' : World) : Prop := ∃ A c, v = .slice A l.length c ∧ l.length ≤ c ∧ Reads w' w'.heap.size 1 A l.length (u8s l) ∧ Below w0.heap.size w0 w'
set_option maxRecDepth 100000 in
set_option maxHeartbeats 4000000 in
theorem decStr_any (p : Nat) (l : List UInt8) (s : ByteArray) (w : World) (he : EncAt w p) (hs : s.data.toList = (enc5 l).map letter) (hl : l.length ≤ 300) :
    Calls Try.prog 26 #[.pointer (some ⟨p, 0, none⟩), .string s] w fun e w' => ∃ v, e = .returned (.tuple #[v, .nilIface]) ∧ Told w l v w' := by
  have hel := enc5_length l
  have hss : s.size = (enc5 l).length := by have h := congrArg List.length hs; rw [List.length_map] at h; exact h
  obtain ⟨m, hm⟩ : ∃ m, (enc5 l).length = m := ⟨_, rfl⟩
  rw [hm] at hss hel
  have HM := Lib.hid hm
  have hml : l.length ≤ m := by omega
  have hm2 : m ≤ 2000 := by omega
  have hcv := fun W : World => Lib.run_convert_string_bytes (P := Try.prog) W 9 22 5 s Try.underlying9 Try.underlying22 Try.underlying5
  have HR : Hid (ByRow (Lib.bytesWorld w 5 s) w.heap.size ((enc5 l).map letter)) := by show ByRow _ _ _; rw [← hs]; exact row_bytes w s
  have HW := Lib.hid (below_bytes w s)
  have HE : Hid (EncAt (Lib.bytesWorld w 5 s) p) := he.below HW.out he.lt
  have hp : p ≠ w.heap.size := Nat.ne_of_lt he.lt
  have hc1 := grownCap_ge w m 0 5
  have hc2 := grownCap_le_maxLen w m 0 5 (by unfold maxLen; omega)
  rw [hss] at hcv
  clear he hs hel hm
  have hc3 : grownCap w m 0 5 ≤ 9223372036854775807 := by unfold maxLen at hc2; exact hc2
  have HD := Lib.hid (inPlace_any p w.heap.size m (grownCap w m 0 5) l (Lib.bytesWorld w 5 s) HE.out hp HR.out HM.out.symm hm2 hc1 hc3)
  have hlc : l.length ≤ grownCap w m 0 5 := Nat.le_trans hml hc1
  clear hc2 HR HE
  go_enter Try.func26, Try.ntmps26
  go_wp2_with (first | (go_at_call 32; refine HD.out.mono ?_; clear HD; rintro e w2 ⟨rfl, ho, X, hx, hxl, hxt⟩; have HO := Lib.hid ho; have HX := Lib.hid hx; have HXL := Lib.hid hxl; have HXT := Lib.hid hxt; clear ho hx hxl hxt) | fail)
  go_ret2
  refine ⟨_, rfl, _, _, rfl, by omega, ?_, HW.out.grown HO.out HW.out.size (fun k e => by injection e with e; omega)⟩
  have h := HX.out.reads
  refine ⟨by rw [u8s_length]; omega, fun hn => ?_⟩
  obtain ⟨ad, e, hb, hc⟩ := h.2 (by have := HXL.out; omega)
  refine ⟨ad, e, hb, fun j u hu => hc j u ?_⟩
  rw [← HXT.out, u8s_take, List.getElem?_take] at hu
  split at hu
  · exact hu
  · cases hu
theorem Told.then_ {w0 w w' : World} {l : List UInt8} {v : Value} (hb : Below w0.heap.size w0 w) (h : Told w l v w') : Told w0 l v w' := by
  obtain ⟨A, c, h1, h2, h3, h4⟩ := h
  exact ⟨A, c, h1, h2, h3, below_then hb hb.size h4⟩
theorem Told.keep {w w' : World} {l : List UInt8} {v : Value} (h : Told w l v w') {g : Nat} {t : TypeId} {cs : Array Value} (hb : Blk w g t cs) : Blk w' g t cs := by
  obtain ⟨_, _, _, _, _, h4⟩ := h
  exact hb.below h4 hb.lt
theorem key_tail (l : List UInt8) : ∃ t : ByteArray, (keyTxt l).extract 1 (keyTxt l).size = t ∧ t.data.toList = (enc5 l).map letter := by
  refine ⟨_, rfl, ?_⟩
  simp [keyTxt, ByteArray.size]
  rw [List.take_of_length_le (by simp)]
set_option maxRecDepth 100000 in
set_option maxHeartbeats 4000000 in
theorem fromKey_any (l : List UInt8) (w : World) (hl : l.length ≤ 300) :
    Calls Try.prog 17 #[.agg #[.string (keyTxt l)]] w fun e w' => ∃ v, e = .returned (.tuple #[v, .nilIface]) ∧ Told w l v w' := by
  have HB0 := Lib.hid (below_one w (.cells #[.string (keyTxt l)] 36))
  have k0 : (w.alloc (.cells #[.string (keyTxt l)] 36)).cell? ⟨w.heap.size, 0, none⟩ = some (.string (keyTxt l)) := (Blk.new w _ _).cell 0
  obtain ⟨t, ht, htl⟩ := key_tail l
  have hks : (keyTxt l).size = (enc5 l).length + 1 := by simp [keyTxt, ByteArray.size]
  have HTL := Lib.hid htl
  clear htl
  obtain ⟨s, hs⟩ : ∃ s, keyTxt l = s := ⟨_, rfl⟩
  rw [hs] at k0 ht hks HB0 ⊢
  rw [hks] at ht
  obtain ⟨m, hm⟩ : ∃ m, (enc5 l).length = m := ⟨_, rfl⟩
  have hm2 : m ≤ 2000 := by have := enc5_length l; omega
  rw [hm] at hks ht
  have h1m : (1 : Int) ≤ (m : Int) + 1 := by omega
  clear hs hm
  go_enter Try.func17, Try.ntmps17
  go_wp2_with fail
  have HK0 := Lib.hid (Blk.new w 36 #[.string s])
  generalize w.alloc (.cells #[.string s] 36) = w1 at HB0 HK0 k0 ⊢
  go_region_held3 (fun w' => w'.cell? ⟨w.heap.size, 0, none⟩ = some (.string s)) (exact k0) (first | (go_at_call 23; refine (rawStd_any _).mono ?_; rintro e w2 ⟨⟨p2, rfl, hp2, he2⟩, hb2⟩; have HP := Lib.hid he2; have HB2 := Lib.hid (below_then (by first | exact HB0.out.drew | exact HB0.out) (by first | exact HB0.out.size) hb2); have HK2 : Hid (Blk w2 w.heap.size 36 #[.string s]) := (by first | exact HK0.out.drew.below hb2 HK0.out.lt | exact HK0.out.below hb2 HK0.out.lt); clear k0 HB0 HK0 he2 hb2 hp2; have k0 : w2.cell? ⟨w.heap.size, 0, none⟩ = some (.string s) := HK2.out.cell 0; have HB0 := HB2; have HK0 := HK2; clear HB2 HK2) | (go_at_call 16; refine (keyString_any _ _).mono ?_; rintro e w3 ⟨rfl, hb3⟩; have HB3 := Lib.hid (below_then (by first | exact HB0.out.drew | exact HB0.out) (by first | exact HB0.out.size) hb3); have HK3 : Hid (Blk w3 w.heap.size 36 #[.string s]) := (by first | exact HK0.out.drew.below hb3 HK0.out.lt | exact HK0.out.below hb3 HK0.out.lt); (try (have HP3 := Lib.hid (HP.out.below hb3 HP.out.lt); clear HP; have HP := HP3; clear HP3)); clear k0 HB0 HK0 hb3; have k0 : w3.cell? ⟨w.heap.size, 0, none⟩ = some (.string s) := HK3.out.cell 0; have HB0 := HB3; have HK0 := HK3; clear HB3 HK3) | (go_at_call 26; refine (decStr_any _ l t _ HP.out HTL.out hl).mono ?_; rintro e w4 ⟨v4, rfl, ht4⟩; have HT4 := Lib.hid (Told.then_ HB0.out ht4); have HK4 : Hid (Blk w4 w.heap.size 36 #[.string s]) := ht4.keep HK0.out; clear ht4 k0; have k0 : w4.cell? ⟨w.heap.size, 0, none⟩ = some (.string s) := HK4.out.cell 0) | fail)
  all_goals (go_wp2; go_ret2; exact ⟨_, rfl, HT4.out⟩)
end Go.Proofs.Ytijbdinemjiepaa
