/- An identifier's prefix: its version, codec, the code and the length of its hash. -/
import Derived.Lib.IndexBytes
import Derived.Test.YtijbdinemjiepaaDoorCidC
namespace Go.Proofs.YtijbdinemjiepaaDoor
open Go.RowKit

theorem below_two (w : World) (a b : Obj) : Below w.heap.size w ((w.alloc a).alloc b) := below_alloc (below_one w a) b
theorem cid_at (cdc : UInt8) (code : Nat) (d : List UInt8) : (⟨(cidBytes cdc code d).toArray⟩ : ByteArray).data.toList = cidBytes cdc code d := rfl
theorem cid_size (cdc : UInt8) (code : Nat) (d : List UInt8) : (⟨(cidBytes cdc code d).toArray⟩ : ByteArray).size = (cidBytes cdc code d).length := by rw [Lib.size_eq]
set_option maxRecDepth 100000 in
theorem version_any (s : ByteArray) (w : World) (h0 : s.data.toList[0]? = some 1) :
    Calls Tryd.prog 69 #[.agg #[.string s]] w fun e w' => e = .returned (.int .u64 1) ∧ Below w.heap.size w w' := by
  have hlt : 0 < s.size := by rw [Lib.size_eq]; exact (List.getElem?_eq_some_iff.mp h0).1
  have hb := byte_at rfl h0 hlt
  have hb2 : (s[0]'hlt).toNat = 1 := by rw [hb]; rfl
  clear h0 hb
  cases hq : ((s.size : Int) == 34)
  all_goals
    go_enter Tryd.func69, Tryd.ntmps69
    go_wp2
    go_ret
    exact ⟨rfl, below_one _ _⟩
/-- An identifier's prefix, as a value. -/
def prefixV (cdc : UInt8) (code : Nat) (d : List UInt8) : Value := .agg #[.int .u64 1, .int .u64 (cdc.toNat : Int), .int .u64 code, .int .i64 (d.length : Nat)]
set_option maxRecDepth 100000 in
set_option maxHeartbeats 2000000 in
theorem prefix_any (cdc : UInt8) (code : Nat) (d : List UInt8) (s : ByteArray) (w : World) (hcd : cdc.toNat < 128) (hx : code < 2097152) (hd : d.length ≤ 1000) (hs : s.data.toList = cidBytes cdc code d) :
    Calls Tryd.prog 59 #[.agg #[.string s]] w fun e w' => e = .returned (prefixV cdc code d) ∧ Below w.heap.size w w' := by
  have hp1 := uv_pos code
  have hle1 := uv_le code (by omega)
  have hle2 := uv_le d.length (by omega)
  have hsz : s.size = 2 + ((uv code).length + ((uv d.length).length + d.length)) := by rw [Lib.size_eq, hs]; simp [cidBytes, mhash]; omega
  have hsn : s.size ≤ 2000 := by omega
  have u1 : uv 1 = [1] := uv_small (by decide)
  have uc : uv cdc.toNat = [cdc] := by rw [uv_small hcd]; simp
  have hex : ∀ k, (s.extract k s.size).data.toList = (cidBytes cdc code d).drop k := fun k => by rw [Lib.extract_to_end, hs]
  have hes : ∀ k, (s.extract k s.size).size ≤ 1000000 := fun k => by rw [Lib.size_eq, hex, List.length_drop, ← hs, ← Lib.size_eq]; omega
  have H0 := Lib.hid (fun W : World => strUvarint_any 1 s (cidBytes cdc code d) (cdc :: mhash code d) W (by decide) hs (by rw [u1]; rfl) (by omega))
  have H1 := Lib.hid (fun W : World => strUvarint_any cdc.toNat (s.extract 1 s.size) _ (mhash code d) W (by omega) (hex 1) (by rw [uc]; rfl) (hes 1))
  have H2 := Lib.hid (fun W : World => strUvarint_any code (s.extract 2 s.size) _ (uv d.length ++ d) W hx (hex 2) rfl (hes 2))
  have H3 := Lib.hid (fun W : World => strUvarint_any d.length (s.extract (2 + (uv code).length) s.size) _ d W (by omega) (hex (2 + (uv code).length)) (by rw [← List.drop_drop]; show (mhash code d).drop _ = _; rw [mhash]; simp) (hes _))
  have HV := Lib.hid (fun W : World => version_any s W (by rw [hs]; rfl))
  rw [u1] at H0
  rw [uc] at H1
  have hs1 : 2 + (uv code).length ≤ s.size := by omega
  clear hs hex hes u1 uc hsz hle2
  generalize (uv code).length = k1 at *
  go_enter Tryd.func59, Tryd.ntmps59
  go_wp2_with (first | (go_at_call 69; refine (HV.out _).mono ?_; rintro e w1 ⟨rfl, hb1⟩; have hz1 : w.heap.size + 1 < w1.heap.size := (by have h := hb1.size; simp at h; omega); have k0 : w1.cell? ⟨w.heap.size, 0, none⟩ = some (.string s) := (hb1.cell (p := ⟨w.heap.size, 0, none⟩) (by simp; omega)).trans (by simp); have hbl := (Blk.new (w.alloc (.cells #[.string s] 72)) 134 #[.int .u64 0, .int .u64 0, .int .u64 0, .int .i64 0]).below hb1 (by simp); rw [World.size_alloc] at hbl; have g0 := hbl.cell 0; have g1 := hbl.cell 1; have g2 := hbl.cell 2; have g3 := hbl.cell 3; have f0 := hbl.frozen 0; have f1 := hbl.frozen 1; have f2 := hbl.frozen 2; have f3 := hbl.frozen 3; have HBL := Lib.hid hbl; have HB1 := Lib.hid hb1; clear hb1 hbl) | (go_at_call_of 70 (Value.string s); refine (H0.out _).mono ?_; clear H0; rintro e w2 ⟨rfl, rfl⟩) | (go_at_call_of 70 (Value.string (s.extract 1 s.size)); refine (H1.out _).mono ?_; clear H1; rintro e w2 ⟨rfl, rfl⟩) | (go_at_call_of 70 (Value.string (s.extract 2 s.size)); refine (H2.out _).mono ?_; clear H2; rintro e w2 ⟨rfl, rfl⟩) | (go_at_call 70; refine (H3.out _).mono ?_; clear H3; rintro e w2 ⟨rfl, rfl⟩) | fail)
  have hbk := (((HBL.out.set_ 0 (.int .u64 1)).set_ 1 (.int .u64 (cdc.toNat : Int))).set_ 2 (.int .u64 (code : Int))).set_ 3 (.int .i64 (d.length : Int))
  (try simp only [Exit.inBlock, Exit.then])
  refine bodyPost_ret (results_cell_row rfl _ _ _ _ _ _ _ rfl hbk Tryd.underlying134 rfl (by kernel_rfl)) rfl ?_
  exact ⟨rfl, ((((below_then (below_two w _ _) (by simp; omega) HB1.out).setCell (by simp) _).setCell (by simp) _).setCell (by simp) _).setCell (by simp) _⟩
end Go.Proofs.YtijbdinemjiepaaDoor
