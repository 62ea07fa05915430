/- The library's contracts of slices.Sort, Index and Contains on texts at this program: laid by the kit's tool, in plain words. No condition of its own. -/
import Derived.Shelf.Sort.Plain
import Derived.Shelf.Slices.Turned
import Derived.Shelf.Slices.In.SortNone
import Derived.Test.YtijbdinemjiepaaDoorProg
namespace Go.Proofs
open Go.Shelf
def Tryd.lays190_ren : Go.Shelf.Ren := ⟨fun | 190 => 45 | 125 => 62 | 258 => 61 | 128 => 80 | 129 => 81 | 302 => 71 | 303 => 72 | 304 => 73 | 305 => 74 | 306 => 75 | 307 => 76 | 308 => 77 | 309 => 78 | 310 => 79 | 333 => 85 | 329 => 86 | 330 => 87 | 334 => 88 | 335 => 89 | 336 => 90 | 344 => 93 | n => n, fun | 31 => 103 | 9 => 9 | 3 => 3 | 46 => 89 | 0 => 0 | 51 => 38 | 53 => 41 | 4 => 4 | 183 => 160 | 182 => 159 | 131 => 165 | 5 => 5 | 218 => 174 | 222 => 177 | 228 => 185 | 229 => 186 | n => n, fun | n => n⟩
theorem Tryd.lays190 : Go.Proofs.Lays.n190 Tryd.prog Tryd.lays190_ren := {
  mixed := by kernel_rfl
  f125 := Tryd.func62.trans (congrArg some (by kernel_rfl))
  f128 := Tryd.func80.trans (congrArg some (by kernel_rfl))
  f129 := Tryd.func81.trans (congrArg some (by kernel_rfl))
  f190 := Tryd.func45.trans (congrArg some (by kernel_rfl))
  f258 := Tryd.func61.trans (congrArg some (by kernel_rfl))
  f302 := Tryd.func71.trans (congrArg some (by kernel_rfl))
  f303 := Tryd.func72.trans (congrArg some (by kernel_rfl))
  f304 := Tryd.func73.trans (congrArg some (by kernel_rfl))
  f305 := Tryd.func74.trans (congrArg some (by kernel_rfl))
  f306 := Tryd.func75.trans (congrArg some (by kernel_rfl))
  f307 := Tryd.func76.trans (congrArg some (by kernel_rfl))
  f308 := Tryd.func77.trans (congrArg some (by kernel_rfl))
  f309 := Tryd.func78.trans (congrArg some (by kernel_rfl))
  f310 := Tryd.func79.trans (congrArg some (by kernel_rfl))
  f329 := Tryd.func86.trans (congrArg some (by kernel_rfl))
  f330 := Tryd.func87.trans (congrArg some (by kernel_rfl))
  f333 := Tryd.func85.trans (congrArg some (by kernel_rfl))
  f334 := Tryd.func88.trans (congrArg some (by kernel_rfl))
  f335 := Tryd.func89.trans (congrArg some (by kernel_rfl))
  f336 := Tryd.func90.trans (congrArg some (by kernel_rfl))
  f344 := Tryd.func93.trans (congrArg some (by kernel_rfl))
  t0 := Tryd.underlying0
  a0 := Tryd.isAgg0
  z0 := Tryd.sizeOf0
  v0 := Tryd.zeroValue0
  t3 := Tryd.underlying3
  a3 := Tryd.isAgg3
  z3 := Tryd.sizeOf3
  v3 := Tryd.zeroValue3
  t4 := Tryd.underlying4
  a4 := Tryd.isAgg4
  z4 := Tryd.sizeOf4
  v4 := Tryd.zeroValue4
  t5 := Tryd.underlying5
  a5 := Tryd.isAgg5
  z5 := Tryd.sizeOf5
  v5 := Tryd.zeroValue5
  t9 := Tryd.underlying9
  a9 := Tryd.isAgg9
  z9 := Tryd.sizeOf9
  v9 := Tryd.zeroValue9
  t31 := Tryd.underlying103
  a31 := Tryd.isAgg103
  z31 := Tryd.sizeOf103
  v31 := Tryd.zeroValue103
  t46 := Tryd.underlying89
  a46 := Tryd.isAgg89
  z46 := Tryd.sizeOf89
  v46 := Tryd.zeroValue89
  t51 := Tryd.underlying38
  a51 := Tryd.isAgg38
  z51 := Tryd.sizeOf38
  v51 := Tryd.zeroValue38
  t53 := Tryd.underlying41
  a53 := Tryd.isAgg41
  z53 := Tryd.sizeOf41
  v53 := Tryd.zeroValue41
  t131 := Tryd.underlying165
  a131 := Tryd.isAgg165
  z131 := Tryd.sizeOf165
  v131 := Tryd.zeroValue165
  t182 := Tryd.underlying159
  a182 := Tryd.isAgg159
  z182 := Tryd.sizeOf159
  v182 := Tryd.zeroValue159
  t183 := Tryd.underlying160
  a183 := Tryd.isAgg160
  z183 := Tryd.sizeOf160
  v183 := Tryd.zeroValue160
  t218 := Tryd.underlying174
  a218 := Tryd.isAgg174
  z218 := Tryd.sizeOf174
  v218 := Tryd.zeroValue174
  t222 := Tryd.underlying177
  a222 := Tryd.isAgg177
  z222 := Tryd.sizeOf177
  v222 := Tryd.zeroValue177
  t228 := Tryd.underlying185
  a228 := Tryd.isAgg185
  z228 := Tryd.sizeOf185
  v228 := Tryd.zeroValue185
  t229 := Tryd.underlying186
  a229 := Tryd.isAgg186
  z229 := Tryd.sizeOf186
  v229 := Tryd.zeroValue186 }
open Go.Sort Go.RowKit in
theorem Tryd.slices_Sort_string (blk off cap : Nat) (ss : List (List UInt8)) (w : World) (hH : Holds encStr w blk off ss.toArray) (hblk : blk < w.heap.size) (hsz : ss.length < 4611686018427387904) :
    Calls Tryd.prog 45 #[.slice (some ⟨blk, off, none⟩) ss.length cap] w fun e w' =>
      e = .returned (.tuple #[]) ∧ ∃ n os, w' = grow (putRow encStr (Sort.ahead w n) blk off (ss.mergeSort fun x y => decide (x ≤ y)).toArray) os := Any.slices_Sort_string Tryd.lays190 blk off cap ss w hH hblk hsz
def Tryd.lays109_ren : Go.Shelf.Ren := ⟨fun | 109 => 60 | n => n, fun | 31 => 103 | 9 => 9 | 3 => 3 | 0 => 0 | 4 => 4 | n => n, fun | n => n⟩
theorem Tryd.lays109 : Go.Proofs.Lays.n109 Tryd.prog Tryd.lays109_ren := {
  mixed := by kernel_rfl
  f109 := Tryd.func60.trans (congrArg some (by kernel_rfl))
  t0 := Tryd.underlying0
  a0 := Tryd.isAgg0
  z0 := Tryd.sizeOf0
  v0 := Tryd.zeroValue0
  t3 := Tryd.underlying3
  a3 := Tryd.isAgg3
  z3 := Tryd.sizeOf3
  v3 := Tryd.zeroValue3
  t4 := Tryd.underlying4
  a4 := Tryd.isAgg4
  z4 := Tryd.sizeOf4
  v4 := Tryd.zeroValue4
  t9 := Tryd.underlying9
  a9 := Tryd.isAgg9
  z9 := Tryd.sizeOf9
  v9 := Tryd.zeroValue9
  t31 := Tryd.underlying103
  a31 := Tryd.isAgg103
  z31 := Tryd.sizeOf103
  v31 := Tryd.zeroValue103 }
open Go.Lib in
theorem Tryd.slices_Index_string (b off n c : Nat) (zs : List ByteArray) (x : ByteArray) (w : World) (hz : n ≤ zs.length) (hbig : n ≤ 9223372036854775807) (hc : ∀ j, j < zs.length → w.cell? ⟨b, off + j, none⟩ = some (.string (zs.getD j ByteArray.empty))) :
    Calls Tryd.prog 60 #[.slice (some ⟨b, off, none⟩) n c, .string x] w fun e w' => e = .returned (.int .i64 (Lib.idxOfS (zs.take n) x)) ∧ w' = w := Any.slices_Index_string Tryd.lays109 b off n c zs x w hz hbig hc
open Go.Lib in
theorem Tryd.slices_Index_string_empty (a : Option Addr) (c : Nat) (x : ByteArray) (w : World) :
    Calls Tryd.prog 60 #[.slice a 0 c, .string x] w fun e w' => e = .returned (.int .i64 (Lib.idxOfS [] x)) ∧ w' = w := Any.slices_Index_string_empty Tryd.lays109 a c x w
def Tryd.lays110_ren : Go.Shelf.Ren := ⟨fun | 110 => 44 | 109 => 60 | n => n, fun | 31 => 103 | 9 => 9 | 4 => 4 | 3 => 3 | 0 => 0 | n => n, fun | n => n⟩
theorem Tryd.lays110 : Go.Proofs.Lays.n110 Tryd.prog Tryd.lays110_ren := {
  mixed := by kernel_rfl
  f109 := Tryd.func60.trans (congrArg some (by kernel_rfl))
  f110 := Tryd.func44.trans (congrArg some (by kernel_rfl))
  t0 := Tryd.underlying0
  a0 := Tryd.isAgg0
  z0 := Tryd.sizeOf0
  v0 := Tryd.zeroValue0
  t3 := Tryd.underlying3
  a3 := Tryd.isAgg3
  z3 := Tryd.sizeOf3
  v3 := Tryd.zeroValue3
  t4 := Tryd.underlying4
  a4 := Tryd.isAgg4
  z4 := Tryd.sizeOf4
  v4 := Tryd.zeroValue4
  t9 := Tryd.underlying9
  a9 := Tryd.isAgg9
  z9 := Tryd.sizeOf9
  v9 := Tryd.zeroValue9
  t31 := Tryd.underlying103
  a31 := Tryd.isAgg103
  z31 := Tryd.sizeOf103
  v31 := Tryd.zeroValue103 }
open Go.Lib in
theorem Tryd.slices_Contains_string (b off n c : Nat) (zs : List ByteArray) (x : ByteArray) (w : World) (hz : n ≤ zs.length) (hbig : n ≤ 9223372036854775807) (hc : ∀ j, j < zs.length → w.cell? ⟨b, off + j, none⟩ = some (.string (zs.getD j ByteArray.empty))) :
    Calls Tryd.prog 44 #[.slice (some ⟨b, off, none⟩) n c, .string x] w fun e w' => e = .returned (.bool (Lib.containsS (zs.take n) x)) ∧ w' = w := Any.slices_Contains_string Tryd.lays110 b off n c zs x w hz hbig hc
open Go.Lib in
theorem Tryd.slices_Contains_string_empty (a : Option Addr) (c : Nat) (x : ByteArray) (w : World) :
    Calls Tryd.prog 44 #[.slice a 0 c, .string x] w fun e w' => e = .returned (.bool false) ∧ w' = w := Any.slices_Contains_string_empty Tryd.lays110 a c x w
open Go.RowKit Go.Sort in
theorem Tryd.slices_Sort_string_none (p : Option Addr) (cap : Nat) (w : World) :
    Calls Tryd.prog 45 #[.slice p 0 cap] w fun e w' => e = .returned (.tuple #[]) ∧ w' = w := Any.slices_Sort_string_none Tryd.lays190 p cap w
end Go.Proofs
