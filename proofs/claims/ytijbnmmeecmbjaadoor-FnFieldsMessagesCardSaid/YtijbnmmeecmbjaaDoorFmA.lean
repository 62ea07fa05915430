/- Contracts of the reference's messages of UnixFS: LinkMessage, ShardMessage, FileMessage, RawMessage and FolderMessage make the bytes of the plain message. -/
import Derived.Lib.ConvBytes
import Derived.Test.YtijbnmmeecmbjaaDoorFlQ
namespace Go.Proofs.YtijbnmmeecmbjaaDoor
open Go.RowKit

/-- What stands between the fields: a row of the call's own. -/
structure SoFar (w wx : World) (v : Value) (bs : List UInt8) : Prop where
  own : wx.ownsRow w.heap.size 5 1 v bs.length (u8s bs)
  below : Below w.heap.size w wx
/-- Behind a call that makes bytes b, the row that stood is still there; the append's premises. -/
structure Ready (wb wx w2 : World) (v : Value) (bs b : List UInt8) (A2 : Option Addr) (m : Nat) : Prop where
  own : w2.ownsRow wb.heap.size 5 1 v bs.length (u8s bs)
  rd : Reads w2 w2.heap.size 1 A2 m (u8s b)
  base : wb.heap.size ≤ w2.heap.size
  below : Below wb.heap.size wb w2
theorem SoFar.ready {wb wx w2 : World} {v : Value} {bs b : List UInt8} {A2 : Option Addr} {m c2 : Nat} (h : SoFar wb wx v bs) (hb : Below wx.heap.size wx w2) (ho : w2.ownsRow wx.heap.size 5 1 (.slice A2 m c2) m (u8s b)) : Ready wb wx w2 v bs b A2 m :=
  ⟨own_below h.own hb, Reads.of_own ho, Nat.le_trans h.below.size hb.size, below_then h.below h.below.size hb⟩
theorem Ready.next {wb w2 w3 : World} {v v3 : Value} {bs b : List UInt8} {wx : World} {A2 : Option Addr} {m : Nat} (h : Ready wb wx w2 v bs b A2 m) (hm : b.length = m) (ho : w3.ownsRow wb.heap.size 5 1 v3 (bs.length + m) (u8s bs ++ u8s b)) (hg : w2.grownBy w3 v.ownBlock) : SoFar wb w3 v3 (bs ++ b) :=
  ⟨by rw [u8s_append, List.length_append, hm]; exact ho, h.below.grown hg h.base (own_base h.own)⟩
theorem SoFar.past {wb wx w2 : World} {v : Value} {bs : List UInt8} (h : SoFar wb wx v bs) (hb : Below wx.heap.size wx w2) : SoFar wb w2 v bs := ⟨own_below h.own hb, below_then h.below h.below.size hb⟩
theorem reads_bytes (w : World) (s : ByteArray) : Reads (Lib.bytesWorld w 5 s) (w.heap.size + 1) 1 (some ⟨w.heap.size, 0, none⟩) s.size (u8s s.data.toList) := by
  have hsl : s.data.toList.length = s.size := Array.length_toList
  refine ⟨by rw [u8s_length, hsl]; omega, fun _ => ⟨⟨w.heap.size, 0, none⟩, rfl, Nat.lt_succ_self _, fun j u hu => ?_⟩⟩
  have hj : j < s.data.toList.length := by
    have := (List.getElem?_eq_some_iff.mp hu).1
    rwa [u8s_length] at this
  rw [add_plain, Nat.zero_add, Lib.bytesWorld_cell w _ s j (by omega), ← hu, u8s_at _ _ hj, List.getD_eq_getElem?_getD, List.getElem?_eq_getElem hj]
  rfl
theorem below_bytes (w : World) (s : ByteArray) : Below w.heap.size w (Lib.bytesWorld w 5 s) :=
  ⟨rfl, rfl, rfl, by rw [Lib.bytesWorld_size]; omega, fun k hk => Lib.bytesWorld_at_old w _ s k hk⟩
theorem fN_le (key : UInt8) {v : Nat} (h : v < 18446744073709551616) : (fieldN key v).length ≤ 11 := by
  have := uv_le v h
  simp [fieldN]
  omega
theorem fB_le (key : UInt8) {b : List UInt8} (h : b.length ≤ 2000) : (fieldB key b).length ≤ 2011 := by
  have := uv_le b.length (by omega)
  rw [fieldB_length]
  omega
theorem app_le {a b : List UInt8} {x y : Nat} (ha : a.length ≤ x) (hb : b.length ≤ y) : (a ++ b).length ≤ x + y := by rw [List.length_append]; exact Nat.add_le_add ha hb
theorem room1 {a b x y : Nat} (ha : a ≤ x) (hb : b ≤ y) (h : x + y ≤ 1000000) : a + b ≤ maxLen := by unfold maxLen; omega
theorem room2 {a b x y : Nat} (ha : a ≤ x) (hb : b ≤ y) (h : x + y ≤ 1000000) : (a + b) * 1 ≤ 140737488355328 := by omega
def OwnB (w : World) (bs : List UInt8) (r : Ending) (w' : World) : Prop := Owns w 5 1 bs.length (u8s bs) r w'
theorem OwnB.of {w w' : World} {v : Value} {bs cs : List UInt8} (h : SoFar w w' v cs) (e : cs = bs) : OwnB w bs (.returned v) w' := by subst e; exact ⟨⟨_, rfl, h.own⟩, h.below⟩
theorem msg_link (d : List UInt8) : fieldN 8 4 ++ fieldB 18 d = msgBytes ⟨4, some d, none, none, none⟩ := by simp [msgBytes, tailBytes, optF, optN]
theorem msg_raw (d : List UInt8) (n : Nat) : fieldN 8 0 ++ fieldB 18 d ++ fieldN 24 n = msgBytes ⟨0, some d, some n, none, none⟩ := by simp [msgBytes, tailBytes, optF, optN]
theorem msg_shard (d : List UInt8) (h f : Nat) : fieldN 8 5 ++ fieldB 18 d ++ fieldN 40 h ++ fieldN 48 f = msgBytes ⟨5, some d, none, some h, some f⟩ := by simp [msgBytes, tailBytes, optF, optN]
theorem msg_file (d : List UInt8) (n : Nat) : fieldN 8 2 ++ fieldB 18 d ++ fieldN 24 n = msgBytes ⟨2, some d, some n, none, none⟩ := by simp [msgBytes, tailBytes, optF, optN]
theorem msg_file0 (n : Nat) : fieldN 8 2 ++ fieldN 24 n = msgBytes ⟨2, none, some n, none, none⟩ := by simp [msgBytes, tailBytes, optF, optN]
theorem num_own (k : Nat) (key : UInt8) (v : Nat) (w : World) (hk : k ≤ 15) (hkey : UInt8.ofNat (8 * k) = key) (hv : v < 18446744073709551616) : Calls Tryd.prog 34 #[.int .u8 k, .int .u64 v] w (OwnB w (fieldN key v)) := by
  subst hkey; exact pbNumber_any k v w hk hv
theorem fld_own (k : Nat) (key : UInt8) (A : Option Addr) (n c B : Nat) (b : List UInt8) (w : World) (hk : k ≤ 15) (hkey : UInt8.ofNat (8 * k + 2) = key) (hr : Reads w B 1 A n (u8s b)) (hB : B ≤ w.heap.size) (hn : n ≤ 2000) : Calls Tryd.prog 35 #[.int .u8 k, .slice A n c] w (OwnB w (fieldB key b)) := by
  subst hkey; exact pbField_any k A n c B b w hk hr hB (by omega)
set_option maxRecDepth 100000 in
set_option maxHeartbeats 2000000 in
theorem rawMsg_any (w : World) (A : Option Addr) (n c B : Nat) (d : List UInt8) (hr : Reads w B 1 A n (u8s d)) (hB : B ≤ w.heap.size) (hn : n ≤ 2000) :
    Calls Tryd.prog 21 #[.slice A n c] w (OwnB w (msgBytes ⟨0, some d, some n, none, none⟩)) := by
  obtain ⟨i0, hi, hz0, hz1, hz2⟩ := info_parts infoU8v
  have HN1 := Lib.hid (fun W => num_own 1 8 0 W (by decide) rfl (by decide))
  have HL1 := Lib.hid (fN_le 8 (v := 0) (by decide))
  have hdl : d.length ≤ 2000 := by have := hr.1; rw [u8s_length] at this; omega
  have HR := Lib.hid hr
  have HF := Lib.hid (fun W h1 h2 => fld_own 2 18 A n c B d W (by decide) rfl h1 h2 hn)
  have HL2 := Lib.hid (fB_le 18 hdl)
  have HN3 := Lib.hid (fun W => num_own 3 24 n W (by decide) rfl (by omega))
  have HL3 := Lib.hid (fN_le 24 (v := n) (by omega))
  have HL12 := Lib.hid (app_le HL1.out HL2.out)
  have hcv : IntKind.u64.wrap (n : Int) = n := IntWalk.u64_in _ ⟨by omega, by omega⟩
  clear hr hdl
  go_enter Tryd.func21, Tryd.ntmps21
  go_wp2_with (first | (go_at_call 34; refine (HN1.out _).mono ?_; clear HN1; rintro e w1 ⟨⟨v1, rfl, ho1⟩, hb1⟩; have HS := Lib.hid (SoFar.mk ho1 hb1); clear ho1 hb1) | (go_at_call 35; refine (HF.out _ (HR.out.below (HS.out.below.mono hB)) (Nat.le_trans hB HS.out.below.size)).mono ?_; clear HF; rintro e w2 ⟨⟨v2, rfl, ho⟩, hb⟩; obtain ⟨A2, c2, rfl, _, _⟩ := own_shape ho; have HRD := Lib.hid (HS.out.ready hb ho); clear ho hb) | (at_builtin; refine wpList_append_any _ rfl (.tmp 3) (.tmp 5) 22 rfl _ 5 i0 (.int .u8 0) 1 1 Tryd.underlying22 hi hz0 hz1 hz2 rfl (by decide) _ _ _ rfl HRD.out.own w2.heap.size A2 _ c2 _ rfl HRD.out.rd (u8s_one _) (room1 HL1.out HL2.out (by decide)) (room2 HL1.out HL2.out (by decide)) HRD.out.base ?_; rintro v3 w3 hown hg _ _; have HS' := Lib.hid (HRD.out.next rfl hown hg); clear hown hg HRD HS; have HS := HS'; clear HS') | (go_at_call 34; refine (HN3.out _).mono ?_; clear HN3; rintro e w4 ⟨⟨v4, rfl, ho⟩, hb⟩; obtain ⟨A4, c4, rfl, _, _⟩ := own_shape ho; have HRD := Lib.hid (HS.out.ready hb ho); clear ho hb) | (at_builtin; refine wpList_append_any _ rfl (.tmp 6) (.tmp 10) 22 rfl _ 5 i0 (.int .u8 0) 1 1 Tryd.underlying22 hi hz0 hz1 hz2 rfl (by decide) _ _ _ rfl HRD.out.own w4.heap.size A4 _ c4 _ rfl HRD.out.rd (u8s_one _) (room1 HL12.out HL3.out (by decide)) (room2 HL12.out HL3.out (by decide)) HRD.out.base ?_; rintro v5 w5 hown hg _ _; have HS' := Lib.hid (HRD.out.next rfl hown hg); clear hown hg HRD HS; have HS := HS'; clear HS') | fail)
  go_ret
  exact OwnB.of HS.out (msg_raw d n)
set_option maxRecDepth 100000 in
set_option maxHeartbeats 2000000 in
theorem shardMsg_any (w : World) (A : Option Addr) (n c B : Nat) (d : List UInt8) (hr : Reads w B 1 A n (u8s d)) (hB : B ≤ w.heap.size) (hn : n ≤ 2000) (fan hash : Nat) (hf : fan < 18446744073709551616) (hh : hash < 18446744073709551616) :
    Calls Tryd.prog 17 #[.slice A n c, .int .u64 (fan : Int), .int .u64 (hash : Int)] w (OwnB w (msgBytes ⟨5, some d, none, some hash, some fan⟩)) := by
  obtain ⟨i0, hi, hz0, hz1, hz2⟩ := info_parts infoU8v
  have HN1 := Lib.hid (fun W => num_own 1 8 5 W (by decide) rfl (by decide))
  have HL1 := Lib.hid (fN_le 8 (v := 5) (by decide))
  have hdl : d.length ≤ 2000 := by have := hr.1; rw [u8s_length] at this; omega
  have HR := Lib.hid hr
  have HF := Lib.hid (fun W h1 h2 => fld_own 2 18 A n c B d W (by decide) rfl h1 h2 hn)
  have HL2 := Lib.hid (fB_le 18 hdl)
  have HN3 := Lib.hid (fun W => num_own 5 40 hash W (by decide) rfl hh)
  have HL3 := Lib.hid (fN_le 40 hh)
  have HN4 := Lib.hid (fun W => num_own 6 48 fan W (by decide) rfl hf)
  have HL4 := Lib.hid (fN_le 48 hf)
  have HL12 := Lib.hid (app_le HL1.out HL2.out)
  have HL123 := Lib.hid (app_le HL12.out HL3.out)
  clear hr hdl hf hh
  go_enter Tryd.func17, Tryd.ntmps17
  go_wp2_with (first | (go_at_call 34; refine (HN1.out _).mono ?_; clear HN1; rintro e w1 ⟨⟨v1, rfl, ho1⟩, hb1⟩; have HS := Lib.hid (SoFar.mk ho1 hb1); clear ho1 hb1) | (go_at_call 35; refine (HF.out _ (HR.out.below (HS.out.below.mono hB)) (Nat.le_trans hB HS.out.below.size)).mono ?_; clear HF; rintro e w2 ⟨⟨v2, rfl, ho⟩, hb⟩; obtain ⟨A2, c2, rfl, _, _⟩ := own_shape ho; have HRD := Lib.hid (HS.out.ready hb ho); clear ho hb) | (at_builtin; refine wpList_append_any _ rfl (.tmp 8) (.tmp 10) 22 rfl _ 5 i0 (.int .u8 0) 1 1 Tryd.underlying22 hi hz0 hz1 hz2 rfl (by decide) _ _ _ rfl HRD.out.own w2.heap.size A2 _ c2 _ rfl HRD.out.rd (u8s_one _) (room1 HL1.out HL2.out (by decide)) (room2 HL1.out HL2.out (by decide)) HRD.out.base ?_; rintro v3 w3 hown hg _ _; have HS' := Lib.hid (HRD.out.next rfl hown hg); clear hown hg HRD HS; have HS := HS'; clear HS') | (go_at_call 34; refine (HN3.out _).mono ?_; clear HN3; rintro e w4 ⟨⟨v4, rfl, ho⟩, hb⟩; obtain ⟨A4, c4, rfl, _, _⟩ := own_shape ho; have HRD := Lib.hid (HS.out.ready hb ho); clear ho hb) | (at_builtin; refine wpList_append_any _ rfl (.tmp 12) (.tmp 14) 22 rfl _ 5 i0 (.int .u8 0) 1 1 Tryd.underlying22 hi hz0 hz1 hz2 rfl (by decide) _ _ _ rfl HRD.out.own w4.heap.size A4 _ c4 _ rfl HRD.out.rd (u8s_one _) (room1 HL12.out HL3.out (by decide)) (room2 HL12.out HL3.out (by decide)) HRD.out.base ?_; rintro v5 w5 hown hg _ _; have HS' := Lib.hid (HRD.out.next rfl hown hg); clear hown hg HRD HS; have HS := HS'; clear HS') | (go_at_call 34; refine (HN4.out _).mono ?_; clear HN4; rintro e w6 ⟨⟨v6, rfl, ho⟩, hb⟩; obtain ⟨A6, c6, rfl, _, _⟩ := own_shape ho; have HRD := Lib.hid (HS.out.ready hb ho); clear ho hb) | (at_builtin; refine wpList_append_any _ rfl (.tmp 15) (.tmp 17) 22 rfl _ 5 i0 (.int .u8 0) 1 1 Tryd.underlying22 hi hz0 hz1 hz2 rfl (by decide) _ _ _ rfl HRD.out.own w6.heap.size A6 _ c6 _ rfl HRD.out.rd (u8s_one _) (room1 HL123.out HL4.out (by decide)) (room2 HL123.out HL4.out (by decide)) HRD.out.base ?_; rintro v7 w7 hown hg _ _; have HS' := Lib.hid (HRD.out.next rfl hown hg); clear hown hg HRD HS; have HS := HS'; clear HS') | fail)
  go_ret
  exact OwnB.of HS.out (msg_shard d hash fan)
set_option maxRecDepth 100000 in
set_option maxHeartbeats 2000000 in
theorem fileMsg_any (w : World) (A : Option Addr) (n c B : Nat) (d : List UInt8) (hr : Reads w B 1 A n (u8s d)) (hB : B ≤ w.heap.size) (hn : n ≤ 2000) (total : Nat) (ht : total < 18446744073709551616) :
    Calls Tryd.prog 19 #[.bool true, .slice A n c, .int .u64 (total : Int)] w (OwnB w (msgBytes ⟨2, some d, some total, none, none⟩)) := by
  obtain ⟨i0, hi, hz0, hz1, hz2⟩ := info_parts infoU8v
  have HN1 := Lib.hid (fun W => num_own 1 8 2 W (by decide) rfl (by decide))
  have HL1 := Lib.hid (fN_le 8 (v := 2) (by decide))
  have hdl : d.length ≤ 2000 := by have := hr.1; rw [u8s_length] at this; omega
  have HR := Lib.hid hr
  have HF := Lib.hid (fun W h1 h2 => fld_own 2 18 A n c B d W (by decide) rfl h1 h2 hn)
  have HL2 := Lib.hid (fB_le 18 hdl)
  have HN3 := Lib.hid (fun W => num_own 3 24 total W (by decide) rfl ht)
  have HL3 := Lib.hid (fN_le 24 ht)
  have HL12 := Lib.hid (app_le HL1.out HL2.out)
  clear hr hdl ht
  go_enter Tryd.func19, Tryd.ntmps19
  go_wp2_with (first | (go_at_call 34; refine (HN1.out _).mono ?_; clear HN1; rintro e w1 ⟨⟨v1, rfl, ho1⟩, hb1⟩; have HS := Lib.hid (SoFar.mk ho1 hb1); clear ho1 hb1) | (go_at_call 35; refine (HF.out _ (HR.out.below (HS.out.below.mono hB)) (Nat.le_trans hB HS.out.below.size)).mono ?_; clear HF; rintro e w2 ⟨⟨v2, rfl, ho⟩, hb⟩; obtain ⟨A2, c2, rfl, _, _⟩ := own_shape ho; have HRD := Lib.hid (HS.out.ready hb ho); clear ho hb) | (at_builtin; refine wpList_append_any _ rfl (.tmp 10) (.tmp 12) 22 rfl _ 5 i0 (.int .u8 0) 1 1 Tryd.underlying22 hi hz0 hz1 hz2 rfl (by decide) _ _ _ rfl HRD.out.own w2.heap.size A2 _ c2 _ rfl HRD.out.rd (u8s_one _) (room1 HL1.out HL2.out (by decide)) (room2 HL1.out HL2.out (by decide)) HRD.out.base ?_; rintro v3 w3 hown hg _ _; have HS' := Lib.hid (HRD.out.next rfl hown hg); clear hown hg HRD HS; have HS := HS'; clear HS') | (go_at_call 34; refine (HN3.out _).mono ?_; clear HN3; rintro e w4 ⟨⟨v4, rfl, ho⟩, hb⟩; obtain ⟨A4, c4, rfl, _, _⟩ := own_shape ho; have HRD := Lib.hid (HS.out.ready hb ho); clear ho hb) | (at_builtin; refine wpList_append_any _ rfl (.tmp 14) (.tmp 16) 22 rfl _ 5 i0 (.int .u8 0) 1 1 Tryd.underlying22 hi hz0 hz1 hz2 rfl (by decide) _ _ _ rfl HRD.out.own w4.heap.size A4 _ c4 _ rfl HRD.out.rd (u8s_one _) (room1 HL12.out HL3.out (by decide)) (room2 HL12.out HL3.out (by decide)) HRD.out.base ?_; rintro v5 w5 hown hg _ _; have HS' := Lib.hid (HRD.out.next rfl hown hg); clear hown hg HRD HS; have HS := HS'; clear HS') | fail)
  go_ret
  exact OwnB.of HS.out (msg_file d total)
set_option maxRecDepth 100000 in
set_option maxHeartbeats 2000000 in
theorem fileMsg0_any (w : World) (A : Option Addr) (n c total : Nat) (ht : total < 18446744073709551616) :
    Calls Tryd.prog 19 #[.bool false, .slice A n c, .int .u64 (total : Int)] w (OwnB w (msgBytes ⟨2, none, some total, none, none⟩)) := by
  obtain ⟨i0, hi, hz0, hz1, hz2⟩ := info_parts infoU8v
  have HN1 := Lib.hid (fun W => num_own 1 8 2 W (by decide) rfl (by decide))
  have HL1 := Lib.hid (fN_le 8 (v := 2) (by decide))
  have HN3 := Lib.hid (fun W => num_own 3 24 total W (by decide) rfl ht)
  have HL3 := Lib.hid (fN_le 24 ht)
  clear ht
  go_enter Tryd.func19, Tryd.ntmps19
  go_wp2_with (first | (go_at_call 34; refine (HN1.out _).mono ?_; clear HN1; rintro e w1 ⟨⟨v1, rfl, ho1⟩, hb1⟩; have HS := Lib.hid (SoFar.mk ho1 hb1); clear ho1 hb1) | (go_at_call 34; refine (HN3.out _).mono ?_; clear HN3; rintro e w2 ⟨⟨v2, rfl, ho⟩, hb⟩; obtain ⟨A2, c2, rfl, _, _⟩ := own_shape ho; have HRD := Lib.hid (HS.out.ready hb ho); clear ho hb) | (at_builtin; refine wpList_append_any _ rfl (.tmp 14) (.tmp 16) 22 rfl _ 5 i0 (.int .u8 0) 1 1 Tryd.underlying22 hi hz0 hz1 hz2 rfl (by decide) _ _ _ rfl HRD.out.own w2.heap.size A2 _ c2 _ rfl HRD.out.rd (u8s_one _) (room1 HL1.out HL3.out (by decide)) (room2 HL1.out HL3.out (by decide)) HRD.out.base ?_; rintro v3 w3 hown hg _ _; have HS' := Lib.hid (HRD.out.next rfl hown hg); clear hown hg HRD HS; have HS := HS'; clear HS') | fail)
  go_ret
  exact OwnB.of HS.out (msg_file0 total)
set_option maxRecDepth 100000 in
set_option maxHeartbeats 2000000 in
theorem linkMsg_any (s : ByteArray) (w : World) (hs : s.size ≤ 2000) :
    Calls Tryd.prog 16 #[.string s] w (OwnB w (msgBytes ⟨4, some s.data.toList, none, none, none⟩)) := by
  obtain ⟨i0, hi, hz0, hz1, hz2⟩ := info_parts infoU8v
  have hcv := fun W : World => Lib.run_convert_string_bytes (P := Tryd.prog) W 9 22 5 s Tryd.underlying9 Tryd.underlying22 Tryd.underlying5
  have hsl : s.data.toList.length = s.size := Array.length_toList
  have HN1 := Lib.hid (fun W => num_own 1 8 4 W (by decide) rfl (by decide))
  have HL1 := Lib.hid (fN_le 8 (v := 4) (by decide))
  have HL2 := Lib.hid (fB_le 18 (b := s.data.toList) (by omega))
  have HF := Lib.hid (fun W A c B h1 h2 => fld_own 2 18 A s.size c B s.data.toList W (by decide) rfl h1 h2 hs)
  clear hsl
  go_enter Tryd.func16, Tryd.ntmps16
  go_wp2_with (first | (go_at_call 34; refine (HN1.out _).mono ?_; clear HN1; rintro e w1 ⟨⟨v1, rfl, ho1⟩, hb1⟩; have HS := Lib.hid ((SoFar.mk ho1 hb1).past (below_bytes w1 s)); have HRB := Lib.hid (reads_bytes w1 s); have HSZ : Hid (w1.heap.size + 1 ≤ (Lib.bytesWorld w1 5 s).heap.size) := (by show _ ≤ _; rw [Lib.bytesWorld_size]; omega); clear ho1 hb1) | (go_at_call 35; refine (HF.out _ _ _ _ HRB.out HSZ.out).mono ?_; clear HF; rintro e w2 ⟨⟨v2, rfl, ho⟩, hb⟩; obtain ⟨A2, c2, rfl, _, _⟩ := own_shape ho; have HRD := Lib.hid (HS.out.ready hb ho); clear ho hb) | (at_builtin; refine wpList_append_any _ rfl (.tmp 3) (.tmp 6) 22 rfl _ 5 i0 (.int .u8 0) 1 1 Tryd.underlying22 hi hz0 hz1 hz2 rfl (by decide) _ _ _ rfl HRD.out.own w2.heap.size A2 _ c2 _ rfl HRD.out.rd (u8s_one _) (room1 HL1.out HL2.out (by decide)) (room2 HL1.out HL2.out (by decide)) HRD.out.base ?_; rintro v3 w3 hown hg _ _; have HS' := Lib.hid (HRD.out.next rfl hown hg); clear hown hg HRD HS; have HS := HS'; clear HS') | fail)
  go_ret
  exact OwnB.of HS.out (msg_link _)
theorem folderMsg_any (w : World) : Calls Tryd.prog 23 #[] w (OwnB w [8, 1]) := by
  have e : fieldN 8 1 = [8, 1] := by
    show 8 :: uv 1 = _
    rw [uv_small (by decide)]
    rfl
  have HN1 := Lib.hid (fun W => num_own 1 8 1 W (by decide) rfl (by decide))
  rw [e] at HN1
  go_enter Tryd.func23, Tryd.ntmps23
  go_wp2_with (first | (go_at_call 34; refine (HN1.out _).mono ?_; clear HN1; rintro e w1 ⟨⟨v1, rfl, ho1⟩, hb1⟩; have HS := Lib.hid (SoFar.mk ho1 hb1); clear ho1 hb1) | fail)
  go_ret
  exact OwnB.of HS.out rfl
end Go.Proofs.YtijbnmmeecmbjaaDoor
