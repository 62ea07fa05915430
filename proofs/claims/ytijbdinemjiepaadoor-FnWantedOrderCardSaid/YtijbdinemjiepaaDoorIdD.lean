/- The library's reading of an identifier of the version 1. -/
import Derived.Test.YtijbdinemjiepaaDoorIdM
namespace Go.Proofs.YtijbdinemjiepaaDoor
open Go.RowKit

theorem results_mid {P : Program} {fn : Func} {t p u : Tmp} {ty : TypeId} (h : fn.results = #[.tmp t, .cell p ty, .tmp u]) (tmps : Array Value) (w : World) (g : Nat) (T : TypeId) (cs : Array Value) (fr : Nat × Nat) (d : TypeDesc)
    (hp : tmps.getD p undef = .pointer (some ⟨g, 0, none⟩)) (hg : w.heap[g]? = some (.cells cs T fr))
    (hu : P.underlying ty = some d) (hd : (match d with | .struct _ | .array _ _ => true | _ => false) = true) (hi : (P.info? ty).map (·.size) = some cs.size) :
    (results fn tmps).run P w = .ok (.tuple #[tmps.getD t undef, .agg cs, tmps.getD u undef]) w := by
  have hp' : tmps[p]?.getD undef = .pointer (some ⟨g, 0, none⟩) := by simpa using hp
  simp [results, h, hp', asAddr, run_loadVar_row w g T ty cs fr d hg hu hd hi]
/-- An identifier of the version 1. -/
def cidBytes (cdc : UInt8) (code : Nat) (d : List UInt8) : List UInt8 := 1 :: cdc :: mhash code d
set_option maxRecDepth 100000 in
set_option maxHeartbeats 2000000 in
theorem cidFrom_any (cdc : UInt8) (code : Nat) (d : List UInt8) (b o n c B : Nat) (w : World) (hcd : cdc.toNat < 128) (hx : code < 2097152) (hd : d.length ≤ 1000) (hr : Reads w B 1 (some ⟨b, o, none⟩) n (u8s (cidBytes cdc code d))) (hnc : n ≤ c) (hB : B ≤ w.heap.size) :
    Calls Tryd.prog 57 #[.slice (some ⟨b, o, none⟩) n c] w fun e w' => e = .returned (.tuple #[.int .i64 n, .agg #[.string ⟨(cidBytes cdc code d).toArray⟩], .nilIface]) ∧ Below w.heap.size w w' := by
  have hln : (cidBytes cdc code d).length = n := by have := hr.1; rw [u8s_length] at this; omega
  have hp1 := uv_pos code
  have hp2 := uv_pos d.length
  have hle1 := uv_le code (by omega)
  have hle2 := uv_le d.length (by omega)
  have hml : (mhash code d).length = (uv code).length + ((uv d.length).length + d.length) := by rw [mhash, List.length_append, List.length_append]
  have hln2 : (mhash code d).length + 2 = n := by rw [← hln]; simp [cidBytes]
  have hn4 : 4 ≤ n := by omega
  have hn5 : n ≤ 2000 := by omega
  have hbw := below_one w (.cells #[.string ByteArray.empty] 72)
  have hr1 := hr.below (hbw.mono hB)
  obtain ⟨b', o', hA, _, hc⟩ := hr.lit (k := 0) (by omega)
  obtain ⟨rfl, rfl⟩ : b' = b ∧ o' = o := by injection hA with hA; injection hA with e1 e2; exact ⟨e1.symm, e2.symm⟩
  have k0 : w.cell? ⟨b', o', none⟩ = some (.int .u8 1) := by have := hc 0 _ rfl; rwa [Nat.add_zero] at this
  have hblt : b' < w.heap.size := World.block_lt_of_cell? w _ k0
  have h1 := cut_slice hr1 (k := 1) (by omega) hnc
  rw [if_neg (by omega)] at h1
  have h2 := cut_slice hr1 (k := 2) (by omega) hnc
  rw [if_neg (by omega)] at h2
  have u1 : uv 1 = [1] := uv_small (by decide)
  have uc : uv cdc.toNat = [cdc] := by rw [uv_small hcd]; simp
  have hcv := fun W : World => fun hW : Reads W B 1 (some ⟨b', o', none⟩) n (u8s (cidBytes cdc code d)) => run_convert_reads (P := Tryd.prog) W 30 5 Tryd.underlying30 Tryd.underlying5 B (some ⟨b', o', none⟩) n c _ hW 9 Tryd.underlying9
  have HF1 := Lib.hid (fun W : World => fun hW : Reads W B 1 (some ⟨b', o', none⟩) n (u8s (cidBytes cdc code d)) => fromUvarint_any 1 _ n c B _ (cdc :: mhash code d) W (by decide) (by rw [u1]; rfl) hW (by omega))
  have HF2 := Lib.hid (fun W : World => fun hW : Reads W B 1 (some ⟨b', o' + 1, none⟩) (n - 1) (u8s ((cidBytes cdc code d).drop 1)) => fromUvarint_any cdc.toNat _ (n - 1) (c - 1) B _ (mhash code d) W (by omega) (by rw [uc]; rfl) hW (by omega))
  have HF3 := Lib.hid (fun W : World => fun hW : Reads W B 1 (some ⟨b', o' + 2, none⟩) (n - 2) (u8s ((cidBytes cdc code d).drop 2)) => mhFrom_any code d b' (o' + 2) (n - 2) (c - 2) B W hx hd hW (by omega))
  rw [u1, uc] at *
  have HR := Lib.hid hr1
  have HH1 := Lib.hid h1
  have HH2 := Lib.hid h2
  have HCV := Lib.hid hcv
  clear hr hr1 h1 h2 hc hcv hml hln hln2 hp1 hp2 hle1 hle2 u1 uc
  go_enter Tryd.func57, Tryd.ntmps57
  go_wp2_with (first | (go_at_call 67; refine (HF1.out _ HR.out).mono ?_; clear HF1; rintro e w1 ⟨rfl, rfl⟩) | (go_at_call 67; refine (HF2.out _ HH1.out).mono ?_; clear HF2; rintro e w1 ⟨rfl, rfl⟩) | (go_at_call 68; refine (HF3.out _ HH2.out).mono ?_; rintro e w1 ⟨rfl, k, rfl⟩) | fail)
  have hq := fun m => HCV.out ((w.alloc (.cells #[.string ByteArray.empty] 72)).drewN m) (HR.out.drewN m)
  have e2 : (2 + ((n - 2 : Nat) : Int)) = (n : Int) := by omega
  rw [e2]
  go_region
  have hblk := ((Blk.new w 72 #[.string ByteArray.empty]).drewN (k + 1)).set_ 0 (.string ⟨(cidBytes cdc code d).toArray⟩)
  have HBLK := Lib.hid hblk
  clear hblk hq
  go_wp2
  (try simp only [Exit.inBlock, Exit.then])
  refine bodyPost_ret (results_mid rfl _ _ _ _ _ _ _ rfl HBLK.out Tryd.underlying72 rfl (by kernel_rfl)) rfl ?_
  exact ⟨rfl, (below_drewN (below_one w _) _).setCell (Nat.le_refl _) _⟩
theorem results_cell_then {P : Program} {fn : Func} {p u : Tmp} {ty : TypeId} (h : fn.results = #[.cell p ty, .tmp u]) (tmps : Array Value) (w : World) (g : Nat) (T : TypeId) (cs : Array Value) (fr : Nat × Nat) (d : TypeDesc)
    (hp : tmps.getD p undef = .pointer (some ⟨g, 0, none⟩)) (hg : w.heap[g]? = some (.cells cs T fr))
    (hu : P.underlying ty = some d) (hd : (match d with | .struct _ | .array _ _ => true | _ => false) = true) (hi : (P.info? ty).map (·.size) = some cs.size) :
    (results fn tmps).run P w = .ok (.tuple #[.agg cs, tmps.getD u undef]) w := by
  have hp' : tmps[p]?.getD undef = .pointer (some ⟨g, 0, none⟩) := by simpa using hp
  simp [results, h, hp', asAddr, run_loadVar_row w g T ty cs fr d hg hu hd hi]
set_option maxRecDepth 100000 in
set_option maxHeartbeats 2000000 in
theorem cast_any (cdc : UInt8) (code : Nat) (d : List UInt8) (b o n c B : Nat) (w : World) (hcd : cdc.toNat < 128) (hx : code < 2097152) (hd : d.length ≤ 1000) (hr : Reads w B 1 (some ⟨b, o, none⟩) n (u8s (cidBytes cdc code d))) (hnc : n ≤ c) (hB : B ≤ w.heap.size) :
    Calls Tryd.prog 38 #[.slice (some ⟨b, o, none⟩) n c] w fun e w' => e = .returned (.tuple #[.agg #[.string ⟨(cidBytes cdc code d).toArray⟩], .nilIface]) ∧ Below w.heap.size w w' := by
  have hr1 := hr.alloc hB (.cells #[.string ByteArray.empty] 72)
  have HF := Lib.hid (cidFrom_any cdc code d b o n c B _ hcd hx hd hr1 hnc (by simp; omega))
  clear hr hr1
  go_enter Tryd.func38, Tryd.ntmps38
  go_wp2_with (first | (go_at_call 57; refine HF.out.mono ?_; rintro e w1 ⟨rfl, hb1⟩; have hz1 : w.heap.size < w1.heap.size := (by have h := hb1.size; simp at h; omega); have k0 : w1.cell? ⟨w.heap.size, 0, none⟩ = some (.string ByteArray.empty) := (hb1.cell (p := ⟨w.heap.size, 0, none⟩) (by simp)).trans (by simp [World.cell?_alloc_new]); have hbl := (Blk.new w 72 #[.string ByteArray.empty]).below hb1 (by simp); have f0 : w1.frozen? ⟨w.heap.size, 0, none⟩ = false := hbl.frozen 0; have HBL := Lib.hid hbl; have HB1 := Lib.hid hb1; clear hb1 hbl) | fail)
  have hbk := (HBL.out.set_ 0 (.string ⟨(cidBytes cdc code d).toArray⟩)).alloc (.cells #[.string ⟨(cidBytes cdc code d).toArray⟩] 72)
  (try simp only [Exit.inBlock, Exit.then])
  refine bodyPost_ret (results_cell_then rfl _ _ _ _ _ _ _ rfl hbk Tryd.underlying72 rfl (by kernel_rfl)) rfl ?_
  exact ⟨rfl, below_alloc ((below_then (below_one w _) (by simp) HB1.out).setCell (Nat.le_refl _) _) _⟩
end Go.Proofs.YtijbdinemjiepaaDoor
