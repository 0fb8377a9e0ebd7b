/-
  DERIVED: THE SHELF's CONTRACTS AT THIS DUMP, IN PLAIN WORDS (tools/lay-plain.mjs out of 'TryShelf.lean', which tools/lay-shelf.mjs wrote): THE SAME DECLARATIONS UNDER THE SAME NAMES: 'import', 'namespace', 'open', 'def', 'theorem' AND NOTHING ELSE: no command of the shelf's: FOR A HAND-IN. Each laying: the table of numbers ('.._ren') and one theorem, a field a fact of the dump's own or the kernel's comparison; each contract: ONE APPLICATION.
-/
import Derived.Shelf.Small.Bits
import Derived.Shelf.Strconv.Itoa0
import Derived.Shelf.Sort.Plain
import Derived.Ground.Names2Prog
import Derived.Shelf.Slices.CompactI
import Derived.Shelf.Slices.SearchI
import Derived.Shelf.Slices.Cells
import Derived.Shelf.Slices.In.SortNone
import Derived.Shelf.Slices.Empties
import Derived.Test.Qxb6601491aProg
namespace Go.Proofs
open Go.Shelf
def Try.lays128_ren : Go.Shelf.Ren := ⟨fun | 128 => 69 | n => n, fun | 51 => 104 | 3 => 3 | 4 => 4 | 46 => 90 | 5 => 5 | 9 => 9 | n => n, fun | n => n⟩
theorem Try.lays128 : Go.Proofs.Lays.n128 Try.prog Try.lays128_ren := {
  mixed := by kernel_rfl
  f128 := Try.func69.trans (congrArg some (by kernel_rfl))
  t3 := Try.underlying3
  a3 := Try.isAgg3
  z3 := Try.sizeOf3
  v3 := Try.zeroValue3
  t4 := Try.underlying4
  a4 := Try.isAgg4
  z4 := Try.sizeOf4
  v4 := Try.zeroValue4
  t5 := Try.underlying5
  a5 := Try.isAgg5
  z5 := Try.sizeOf5
  v5 := Try.zeroValue5
  t9 := Try.underlying9
  a9 := Try.isAgg9
  z9 := Try.sizeOf9
  v9 := Try.zeroValue9
  t46 := Try.underlying90
  a46 := Try.isAgg90
  z46 := Try.sizeOf90
  v46 := Try.zeroValue90
  t51 := Try.underlying104
  a51 := Try.isAgg104
  z51 := Try.sizeOf104
  v51 := Try.zeroValue104 }
/-- bits.Len32: "Len32 returns the minimum number of bits required to represent x; the result is 0 for x == 0.": IT RETURNS 'Lib.bitLen x'; the world is as it was. ('h0', 'h1': x is a uint32.) (LAID: no walk: one application.) -/
theorem Try.bits_Len32 (x : Int) (w : World) (h0 : 0 ≤ x) (h1 : x ≤ 4294967295) :
    Calls Try.prog 69 #[.int .u32 x] w fun e w' => e = .returned (.int .i64 (Lib.bitLen x.toNat)) ∧ w' = w := Any.bits_Len32 Try.lays128 x w h0 h1
def Try.lays125_ren : Go.Shelf.Ren := ⟨fun | 125 => 55 | 128 => 69 | 129 => 70 | n => n, fun | 46 => 90 | 3 => 3 | 51 => 104 | 53 => 106 | 4 => 4 | 5 => 5 | 9 => 9 | n => n, fun | n => n⟩
theorem Try.lays125 : Go.Proofs.Lays.n125 Try.prog Try.lays125_ren := {
  mixed := by kernel_rfl
  f125 := Try.func55.trans (congrArg some (by kernel_rfl))
  f128 := Try.func69.trans (congrArg some (by kernel_rfl))
  f129 := Try.func70.trans (congrArg some (by kernel_rfl))
  t3 := Try.underlying3
  a3 := Try.isAgg3
  z3 := Try.sizeOf3
  v3 := Try.zeroValue3
  t4 := Try.underlying4
  a4 := Try.isAgg4
  z4 := Try.sizeOf4
  v4 := Try.zeroValue4
  t5 := Try.underlying5
  a5 := Try.isAgg5
  z5 := Try.sizeOf5
  v5 := Try.zeroValue5
  t9 := Try.underlying9
  a9 := Try.isAgg9
  z9 := Try.sizeOf9
  v9 := Try.zeroValue9
  t46 := Try.underlying90
  a46 := Try.isAgg90
  z46 := Try.sizeOf90
  v46 := Try.zeroValue90
  t51 := Try.underlying104
  a51 := Try.isAgg104
  z51 := Try.sizeOf104
  v51 := Try.zeroValue104
  t53 := Try.underlying106
  a53 := Try.isAgg106
  z53 := Try.sizeOf106
  v53 := Try.zeroValue106 }
/-- bits.Len: "Len returns the minimum number of bits required to represent x; the result is 0 for x == 0.": IT RETURNS 'Lib.bitLen x'; the world is as it was. (A uint has 64 bits in the model.) ITS CALLEE bits.Len64 IS MET BY ITS OWN CONTRACT OFF THE SHELF (lay that first). (LAID: no walk: one application.) -/
theorem Try.bits_Len (x : Int) (w : World) (h0 : 0 ≤ x) (h1 : x ≤ 18446744073709551615) :
    Calls Try.prog 55 #[.int .u64 x] w fun e w' => e = .returned (.int .i64 (Lib.bitLen x.toNat)) ∧ w' = w := Any.bits_Len Try.lays125 x w h0 h1
def Try.lays129_ren : Go.Shelf.Ren := ⟨fun | 129 => 70 | n => n, fun | 53 => 106 | 3 => 3 | 4 => 4 | 46 => 90 | 5 => 5 | 9 => 9 | n => n, fun | n => n⟩
theorem Try.lays129 : Go.Proofs.Lays.n129 Try.prog Try.lays129_ren := {
  mixed := by kernel_rfl
  f129 := Try.func70.trans (congrArg some (by kernel_rfl))
  t3 := Try.underlying3
  a3 := Try.isAgg3
  z3 := Try.sizeOf3
  v3 := Try.zeroValue3
  t4 := Try.underlying4
  a4 := Try.isAgg4
  z4 := Try.sizeOf4
  v4 := Try.zeroValue4
  t5 := Try.underlying5
  a5 := Try.isAgg5
  z5 := Try.sizeOf5
  v5 := Try.zeroValue5
  t9 := Try.underlying9
  a9 := Try.isAgg9
  z9 := Try.sizeOf9
  v9 := Try.zeroValue9
  t46 := Try.underlying90
  a46 := Try.isAgg90
  z46 := Try.sizeOf90
  v46 := Try.zeroValue90
  t53 := Try.underlying106
  a53 := Try.isAgg106
  z53 := Try.sizeOf106
  v53 := Try.zeroValue106 }
/-- bits.Len64: "Len64 returns the minimum number of bits required to represent x; the result is 0 for x == 0.": IT RETURNS 'Lib.bitLen x'; the world is as it was. ('h0', 'h1': x is a uint64.) (LAID: no walk: one application.) -/
theorem Try.bits_Len64 (x : Int) (w : World) (h0 : 0 ≤ x) (h1 : x ≤ 18446744073709551615) :
    Calls Try.prog 70 #[.int .u64 x] w fun e w' => e = .returned (.int .i64 (Lib.bitLen x.toNat)) ∧ w' = w := Any.bits_Len64 Try.lays129 x w h0 h1
def Try.lays189_ren : Go.Shelf.Ren := ⟨fun | 189 => 46 | 125 => 55 | 257 => 54 | 128 => 69 | 129 => 70 | 294 => 60 | 295 => 61 | 296 => 62 | 297 => 63 | 298 => 64 | 299 => 65 | 216 => 66 | 300 => 67 | 301 => 68 | 328 => 90 | 329 => 91 | 330 => 92 | 331 => 93 | 332 => 94 | 215 => 95 | 343 => 103 | n => n, fun | 28 => 41 | 3 => 3 | 46 => 90 | 0 => 0 | 51 => 104 | 53 => 106 | 4 => 4 | 183 => 98 | 182 => 97 | 131 => 39 | 5 => 5 | 9 => 9 | 218 => 118 | 222 => 122 | 228 => 128 | 229 => 129 | n => n, fun | n => n⟩
theorem Try.lays189 : Go.Proofs.Lays.n189 Try.prog Try.lays189_ren := {
  mixed := by kernel_rfl
  f125 := Try.func55.trans (congrArg some (by kernel_rfl))
  f128 := Try.func69.trans (congrArg some (by kernel_rfl))
  f129 := Try.func70.trans (congrArg some (by kernel_rfl))
  f189 := Try.func46.trans (congrArg some (by kernel_rfl))
  f215 := Try.func95.trans (congrArg some (by kernel_rfl))
  f216 := Try.func66.trans (congrArg some (by kernel_rfl))
  f257 := Try.func54.trans (congrArg some (by kernel_rfl))
  f294 := Try.func60.trans (congrArg some (by kernel_rfl))
  f295 := Try.func61.trans (congrArg some (by kernel_rfl))
  f296 := Try.func62.trans (congrArg some (by kernel_rfl))
  f297 := Try.func63.trans (congrArg some (by kernel_rfl))
  f298 := Try.func64.trans (congrArg some (by kernel_rfl))
  f299 := Try.func65.trans (congrArg some (by kernel_rfl))
  f300 := Try.func67.trans (congrArg some (by kernel_rfl))
  f301 := Try.func68.trans (congrArg some (by kernel_rfl))
  f328 := Try.func90.trans (congrArg some (by kernel_rfl))
  f329 := Try.func91.trans (congrArg some (by kernel_rfl))
  f330 := Try.func92.trans (congrArg some (by kernel_rfl))
  f331 := Try.func93.trans (congrArg some (by kernel_rfl))
  f332 := Try.func94.trans (congrArg some (by kernel_rfl))
  f343 := Try.func103.trans (congrArg some (by kernel_rfl))
  t0 := Try.underlying0
  a0 := Try.isAgg0
  z0 := Try.sizeOf0
  v0 := Try.zeroValue0
  t3 := Try.underlying3
  a3 := Try.isAgg3
  z3 := Try.sizeOf3
  v3 := Try.zeroValue3
  t4 := Try.underlying4
  a4 := Try.isAgg4
  z4 := Try.sizeOf4
  v4 := Try.zeroValue4
  t5 := Try.underlying5
  a5 := Try.isAgg5
  z5 := Try.sizeOf5
  v5 := Try.zeroValue5
  t9 := Try.underlying9
  a9 := Try.isAgg9
  z9 := Try.sizeOf9
  v9 := Try.zeroValue9
  t28 := Try.underlying41
  a28 := Try.isAgg41
  z28 := Try.sizeOf41
  v28 := Try.zeroValue41
  t46 := Try.underlying90
  a46 := Try.isAgg90
  z46 := Try.sizeOf90
  v46 := Try.zeroValue90
  t51 := Try.underlying104
  a51 := Try.isAgg104
  z51 := Try.sizeOf104
  v51 := Try.zeroValue104
  t53 := Try.underlying106
  a53 := Try.isAgg106
  z53 := Try.sizeOf106
  v53 := Try.zeroValue106
  t131 := Try.underlying39
  a131 := Try.isAgg39
  z131 := Try.sizeOf39
  v131 := Try.zeroValue39
  t182 := Try.underlying97
  a182 := Try.isAgg97
  z182 := Try.sizeOf97
  v182 := Try.zeroValue97
  t183 := Try.underlying98
  a183 := Try.isAgg98
  z183 := Try.sizeOf98
  v183 := Try.zeroValue98
  t218 := Try.underlying118
  a218 := Try.isAgg118
  z218 := Try.sizeOf118
  v218 := Try.zeroValue118
  t222 := Try.underlying122
  a222 := Try.isAgg122
  z222 := Try.sizeOf122
  v222 := Try.zeroValue122
  t228 := Try.underlying128
  a228 := Try.isAgg128
  z228 := Try.sizeOf128
  v228 := Try.zeroValue128
  t229 := Try.underlying129
  a229 := Try.isAgg129
  z229 := Try.sizeOf129
  v229 := Try.zeroValue129 }
open Go.Sort Go.RowKit in
theorem Try.slices_Sort_int (blk off cap : Nat) (zs : List Int) (w : World) (hH : Holds (Value.int .i64) w blk off zs.toArray) (hblk : blk < w.heap.size) (hsz : zs.length < 4611686018427387904) :
    Calls Try.prog 46 #[.slice (some ⟨blk, off, none⟩) zs.length cap] w fun e w' =>
      e = .returned (.tuple #[]) ∧ ∃ n os, w' = grow (putRow (Value.int .i64) (Sort.ahead w n) blk off (zs.mergeSort fun x y => decide (x ≤ y)).toArray) os := Any.slices_Sort_int Try.lays189 blk off cap zs w hH hblk hsz
def Try.laysNm220_ren : Go.Shelf.Ren := ⟨fun | 20 => 47 | n => n, fun | 22 => 41 | 3 => 3 | 4 => 4 | 0 => 0 | n => n, fun | n => n⟩
theorem Try.laysNm220 : Go.Proofs.Lays2.n20 Try.prog Try.laysNm220_ren := {
  mixed := by kernel_rfl
  f20 := Try.func47.trans (congrArg some (by kernel_rfl))
  t0 := Try.underlying0
  a0 := Try.isAgg0
  z0 := Try.sizeOf0
  v0 := Try.zeroValue0
  t3 := Try.underlying3
  a3 := Try.isAgg3
  z3 := Try.sizeOf3
  v3 := Try.zeroValue3
  t4 := Try.underlying4
  a4 := Try.isAgg4
  z4 := Try.sizeOf4
  v4 := Try.zeroValue4
  t22 := Try.underlying41
  a22 := Try.isAgg41
  z22 := Try.sizeOf41
  v22 := Try.zeroValue41
  i3 := by kernel_rfl }
open Go.RowKit Go.Lib Go.Sort in
/-- slices.Compact at []int, over an array: the library's two loops are walked. (LAID: no walk: one application.) -/
theorem Try.slices_Compact_int_arr (blk off cap : Nat) (d : Array Int) (w : World) (hH : Holds encI w blk off d) (hsz : d.size ≤ 9223372036854775807) (hcap : d.size ≤ cap) :
    Calls Try.prog 47 #[.slice (some ⟨blk, off, none⟩) d.size cap] w fun e w' => e = .returned (.slice (some ⟨blk, off, none⟩) (compactUpTo d d.size).length cap) ∧ ∃ q, w' = putRow encI (Sort.ahead w q) blk off (compactUpTo d d.size ++ List.replicate (d.size - (compactUpTo d d.size).length) 0).toArray := Any.slices_Compact_int_arr Try.laysNm220 blk off cap d w hH hsz hcap
open Go.RowKit Go.Lib Go.Sort in
/-- slices.Compact at []int: "Compact replaces consecutive runs of equal elements with a single copy. This is like the uniq command found on Unix. Compact modifies the contents of the slice s and returns the modified slice, which may have a smaller length. Compact zeroes the elements between the new length and the original length. The result preserves the nilness of s.": IT RETURNS THE SLICE CUT TO 'Lib.compact zs'; ITS CELLS HOLD 'Lib.compact zs', THEN ZERO VALUES up to the old length; all else is as it was, but for the count of draws. IN THE WORDS OF slices.Sort's CONTRACT ('Holds', 'putRow'): so the everyday 'slices.Sort(xs); xs = slices.Compact(xs)' goes from the one contract to the other. It asks 'zs.length ≤ cap' (every slice's: the reslicing 's[:k]' looks at it). Length 0, nil: '.._empty'. (LAID: no walk: one application.) -/
theorem Try.slices_Compact_int (blk off cap : Nat) (zs : List Int) (w : World) (hH : Holds (Value.int .i64) w blk off zs.toArray) (hsz : zs.length ≤ 9223372036854775807) (hcap : zs.length ≤ cap) :
    Calls Try.prog 47 #[.slice (some ⟨blk, off, none⟩) zs.length cap] w fun e w' => e = .returned (.slice (some ⟨blk, off, none⟩) (Lib.compact zs).length cap) ∧ ∃ q, w' = putRow (Value.int .i64) (Sort.ahead w q) blk off (Lib.compact zs ++ List.replicate (zs.length - (Lib.compact zs).length) 0).toArray := Any.slices_Compact_int Try.laysNm220 blk off cap zs w hH hsz hcap
open Go.RowKit Go.Lib Go.Sort in
/-- The same at a slice of length 0, a nil one too: it comes back as it is. (LAID: no walk: one application.) -/
theorem Try.slices_Compact_int_empty (a : Option Addr) (cap : Nat) (w : World) :
    Calls Try.prog 47 #[.slice a 0 cap] w fun e w' => e = .returned (.slice a 0 cap) ∧ w' = w := Any.slices_Compact_int_empty Try.laysNm220 a cap w
def Try.laysNm237_ren : Go.Shelf.Ren := ⟨fun | 37 => 95 | n => n, fun | 3 => 3 | 4 => 4 | n => n, fun | n => n⟩
theorem Try.laysNm237 : Go.Proofs.Lays2.n37 Try.prog Try.laysNm237_ren := {
  mixed := by kernel_rfl
  f37 := Try.func95.trans (congrArg some (by kernel_rfl))
  t3 := Try.underlying3
  a3 := Try.isAgg3
  z3 := Try.sizeOf3
  v3 := Try.zeroValue3
  t4 := Try.underlying4
  a4 := Try.isAgg4
  z4 := Try.sizeOf4
  v4 := Try.zeroValue4 }
open Go.RowKit Go.Lib in
/-- cmp.isNaN[int]: 'x != x': false. (LAID: no walk: one application.) -/
theorem Try.cmp_isNaN_int2 (x : Int) (w : World) :
    Calls Try.prog 95 #[.int .i64 x] w fun e w' => e = .returned (.bool false) ∧ w' = w := Any.cmp_isNaN_int2 Try.laysNm237 x w
def Try.laysNm232_ren : Go.Shelf.Ren := ⟨fun | 32 => 80 | n => n, fun | 3 => 3 | 4 => 4 | n => n, fun | n => n⟩
theorem Try.laysNm232 : Go.Proofs.Lays2.n32 Try.prog Try.laysNm232_ren := {
  mixed := by kernel_rfl
  f32 := Try.func80.trans (congrArg some (by kernel_rfl))
  t3 := Try.underlying3
  a3 := Try.isAgg3
  z3 := Try.sizeOf3
  v3 := Try.zeroValue3
  t4 := Try.underlying4
  a4 := Try.isAgg4
  z4 := Try.sizeOf4
  v4 := Try.zeroValue4 }
open Go.RowKit Go.Lib in
/-- slices.isNaN[int]: 'x != x': false. (LAID: no walk: one application.) -/
theorem Try.slices_isNaN_int2 (x : Int) (w : World) :
    Calls Try.prog 80 #[.int .i64 x] w fun e w' => e = .returned (.bool false) ∧ w' = w := Any.slices_isNaN_int2 Try.laysNm232 x w
def Try.laysNm231_ren : Go.Shelf.Ren := ⟨fun | 31 => 66 | 37 => 95 | n => n, fun | 3 => 3 | 4 => 4 | n => n, fun | n => n⟩
theorem Try.laysNm231 : Go.Proofs.Lays2.n31 Try.prog Try.laysNm231_ren := {
  mixed := by kernel_rfl
  f31 := Try.func66.trans (congrArg some (by kernel_rfl))
  f37 := Try.func95.trans (congrArg some (by kernel_rfl))
  t3 := Try.underlying3
  a3 := Try.isAgg3
  z3 := Try.sizeOf3
  v3 := Try.zeroValue3
  t4 := Try.underlying4
  a4 := Try.isAgg4
  z4 := Try.sizeOf4
  v4 := Try.zeroValue4 }
open Go.RowKit Go.Lib in
/-- cmp.Less[int]: "Less reports whether x is less than y.": 'x < y'; the world is as it was. (LAID: no walk: one application.) -/
theorem Try.cmp_Less_int2 (x y : Int) (w : World) :
    Calls Try.prog 66 #[.int .i64 x, .int .i64 y] w fun e w' => e = .returned (.bool (decide (x < y))) ∧ w' = w := Any.cmp_Less_int2 Try.laysNm231 x y w
def Try.laysNm225_ren : Go.Shelf.Ren := ⟨fun | 25 => 58 | 31 => 66 | 32 => 80 | 37 => 95 | n => n, fun | 22 => 41 | 3 => 3 | 4 => 4 | 40 => 90 | 0 => 0 | n => n, fun | n => n⟩
theorem Try.laysNm225 : Go.Proofs.Lays2.n25 Try.prog Try.laysNm225_ren := {
  mixed := by kernel_rfl
  f25 := Try.func58.trans (congrArg some (by kernel_rfl))
  f31 := Try.func66.trans (congrArg some (by kernel_rfl))
  f32 := Try.func80.trans (congrArg some (by kernel_rfl))
  f37 := Try.func95.trans (congrArg some (by kernel_rfl))
  t0 := Try.underlying0
  a0 := Try.isAgg0
  z0 := Try.sizeOf0
  v0 := Try.zeroValue0
  t3 := Try.underlying3
  a3 := Try.isAgg3
  z3 := Try.sizeOf3
  v3 := Try.zeroValue3
  t4 := Try.underlying4
  a4 := Try.isAgg4
  z4 := Try.sizeOf4
  v4 := Try.zeroValue4
  t22 := Try.underlying41
  a22 := Try.isAgg41
  z22 := Try.sizeOf41
  v22 := Try.zeroValue41
  t40 := Try.underlying90
  a40 := Try.isAgg90
  z40 := Try.sizeOf90
  v40 := Try.zeroValue90 }
open Go.RowKit Go.Lib in
/-- slices.BinarySearch at []int: "BinarySearch searches for target in a sorted slice and returns the earliest position where target is found, or the position where target would appear in the sort order; it also returns a bool saying whether the target is really found in the slice. The slice must be sorted in increasing order.": OF A SORTED SLICE IT RETURNS how many elements are less than the target, and whether the target is among the elements; the world is as it was but for the count of draws. 'zs': what the cells behind the slice's address hold; 'zs.take n': its elements. (Of a slice that is not sorted: no contract here.) (LAID: no walk: one application.) -/
theorem Try.slices_BinarySearch_int (b off n c : Nat) (zs : List Int) (x : Int) (w : World) (hz : n ≤ zs.length) (hbig : n < 4611686018427387904) (hc : ∀ j, j < zs.length → w.cell? ⟨b, off + j, none⟩ = some (.int .i64 (zs.getD j 0))) (hs : (zs.take n).Pairwise (· ≤ ·)) :
    Calls Try.prog 58 #[.slice (some ⟨b, off, none⟩) n c, .int .i64 x] w fun e w' => e = .returned (.tuple #[.int .i64 ((zs.take n).countP (· < x) : Nat), .bool ((zs.take n).contains x)]) ∧ ∃ q, w' = w.drewN q := Any.slices_BinarySearch_int Try.laysNm225 b off n c zs x w hz hbig hc hs
open Go.RowKit Go.Lib Go.Sort in
/-- slices.Compact at []int, of an argument: the slice cut to 'Lib.compact (elements)'; the n cells hold that, then zeros. (LAID: no walk: one application.) -/
theorem Try.slices_Compact_int_cells (b off n c : Nat) (zs : List Int) (w : World) (hz : n ≤ zs.length) (hbig : n ≤ 9223372036854775807) (hcap : n ≤ c) (hc : ∀ j, j < zs.length → w.cell? ⟨b, off + j, none⟩ = some (.int .i64 (zs.getD j 0))) (hf : ∀ j, j < n → w.frozen? ⟨b, off + j, none⟩ = false) :
    Calls Try.prog 47 #[.slice (some ⟨b, off, none⟩) n c] w fun e w' => e = .returned (.slice (some ⟨b, off, none⟩) (Lib.compact (zs.take n)).length c) ∧ ∃ q, w' = (w.drewN q).setCells b off ((Lib.compact (zs.take n) ++ List.replicate (n - (Lib.compact (zs.take n)).length) 0).map (Value.int .i64)) := Any.slices_Compact_int_cells Try.laysNm220 b off n c zs w hz hbig hcap hc hf
open Go.RowKit Go.Sort in
/-- .. and plain. (LAID: no walk: one application.) -/
theorem Try.slices_Sort_int_none (p : Option Addr) (cap : Nat) (w : World) :
    Calls Try.prog 46 #[.slice p 0 cap] w fun e w' => e = .returned (.tuple #[]) ∧ w' = w := Any.slices_Sort_int_none Try.lays189 p cap w
open Go.RowKit Go.Lib in
/-- slices.BinarySearch at []int of no element: position 0, not found; the world is as it was. (LAID: no walk: one application.) -/
theorem Try.slices_BinarySearch_int_empty (a : Option Addr) (c : Nat) (x : Int) (w : World) :
    Calls Try.prog 58 #[.slice a 0 c, .int .i64 x] w fun e w' => e = .returned (.tuple #[.int .i64 0, .bool false]) ∧ w' = w := Any.slices_BinarySearch_int_empty Try.laysNm225 a c x w
end Go.Proofs
