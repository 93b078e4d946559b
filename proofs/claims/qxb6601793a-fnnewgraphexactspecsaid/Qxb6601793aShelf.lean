/- The shelf's contracts of slices.Sort, slices.Clone, slices.Compact, laid at this program (written by the kit's tools lay-shelf and lay-plain; trimmed). -/
import Derived.Shelf.Sort.Plain
import Derived.Shelf.Slices.Clone
import Derived.Shelf.Slices.CompactI
import Derived.Shelf.Slices.Cells
import Derived.Shelf.Slices.In.SortNone
import Derived.Test.Qxb6601793aProg
namespace Go.Proofs
open Go.Shelf
def Try.lays189_ren : Go.Shelf.Ren := ⟨fun | 189 => 35 | 125 => 41 | 257 => 42 | 128 => 53 | 129 => 54 | 294 => 55 | 295 => 56 | 296 => 57 | 297 => 58 | 298 => 59 | 299 => 60 | 216 => 61 | 300 => 62 | 301 => 63 | 328 => 71 | 329 => 66 | 330 => 67 | 331 => 72 | 332 => 73 | 215 => 74 | 343 => 76 | n => n, fun | 28 => 26 | 3 => 3 | 46 => 80 | 0 => 0 | 51 => 92 | 53 => 94 | 4 => 4 | 183 => 85 | 182 => 84 | 131 => 69 | 5 => 5 | 9 => 9 | 218 => 102 | 222 => 106 | 228 => 111 | 229 => 112 | n => n, fun | n => n⟩
theorem Try.lays189 : Go.Proofs.Lays.n189 Try.prog Try.lays189_ren := {
  mixed := by kernel_rfl
  f125 := Try.func41.trans (congrArg some (by kernel_rfl))
  f128 := Try.func53.trans (congrArg some (by kernel_rfl))
  f129 := Try.func54.trans (congrArg some (by kernel_rfl))
  f189 := Try.func35.trans (congrArg some (by kernel_rfl))
  f215 := Try.func74.trans (congrArg some (by kernel_rfl))
  f216 := Try.func61.trans (congrArg some (by kernel_rfl))
  f257 := Try.func42.trans (congrArg some (by kernel_rfl))
  f294 := Try.func55.trans (congrArg some (by kernel_rfl))
  f295 := Try.func56.trans (congrArg some (by kernel_rfl))
  f296 := Try.func57.trans (congrArg some (by kernel_rfl))
  f297 := Try.func58.trans (congrArg some (by kernel_rfl))
  f298 := Try.func59.trans (congrArg some (by kernel_rfl))
  f299 := Try.func60.trans (congrArg some (by kernel_rfl))
  f300 := Try.func62.trans (congrArg some (by kernel_rfl))
  f301 := Try.func63.trans (congrArg some (by kernel_rfl))
  f328 := Try.func71.trans (congrArg some (by kernel_rfl))
  f329 := Try.func66.trans (congrArg some (by kernel_rfl))
  f330 := Try.func67.trans (congrArg some (by kernel_rfl))
  f331 := Try.func72.trans (congrArg some (by kernel_rfl))
  f332 := Try.func73.trans (congrArg some (by kernel_rfl))
  f343 := Try.func76.trans (congrArg some (by kernel_rfl))
  t0 := Try.underlying0
  a0 := Try.isAgg0
  z0 := Try.sizeOf0
  v0 := Try.zeroValue0
  t3 := Try.underlying3
  a3 := Try.isAgg3
  z3 := Try.sizeOf3
  v3 := Try.zeroValue3
  t4 := Try.underlying4
  a4 := Try.isAgg4
  z4 := Try.sizeOf4
  v4 := Try.zeroValue4
  t5 := Try.underlying5
  a5 := Try.isAgg5
  z5 := Try.sizeOf5
  v5 := Try.zeroValue5
  t9 := Try.underlying9
  a9 := Try.isAgg9
  z9 := Try.sizeOf9
  v9 := Try.zeroValue9
  t28 := Try.underlying26
  a28 := Try.isAgg26
  z28 := Try.sizeOf26
  v28 := Try.zeroValue26
  t46 := Try.underlying80
  a46 := Try.isAgg80
  z46 := Try.sizeOf80
  v46 := Try.zeroValue80
  t51 := Try.underlying92
  a51 := Try.isAgg92
  z51 := Try.sizeOf92
  v51 := Try.zeroValue92
  t53 := Try.underlying94
  a53 := Try.isAgg94
  z53 := Try.sizeOf94
  v53 := Try.zeroValue94
  t131 := Try.underlying69
  a131 := Try.isAgg69
  z131 := Try.sizeOf69
  v131 := Try.zeroValue69
  t182 := Try.underlying84
  a182 := Try.isAgg84
  z182 := Try.sizeOf84
  v182 := Try.zeroValue84
  t183 := Try.underlying85
  a183 := Try.isAgg85
  z183 := Try.sizeOf85
  v183 := Try.zeroValue85
  t218 := Try.underlying102
  a218 := Try.isAgg102
  z218 := Try.sizeOf102
  v218 := Try.zeroValue102
  t222 := Try.underlying106
  a222 := Try.isAgg106
  z222 := Try.sizeOf106
  v222 := Try.zeroValue106
  t228 := Try.underlying111
  a228 := Try.isAgg111
  z228 := Try.sizeOf111
  v228 := Try.zeroValue111
  t229 := Try.underlying112
  a229 := Try.isAgg112
  z229 := Try.sizeOf112
  v229 := Try.zeroValue112 }
open Go.Sort Go.RowKit in
theorem Try.slices_Sort_int (blk off cap : Nat) (zs : List Int) (w : World) (hH : Holds (Value.int .i64) w blk off zs.toArray) (hblk : blk < w.heap.size) (hsz : zs.length < 4611686018427387904) :
    Calls Try.prog 35 #[.slice (some ⟨blk, off, none⟩) zs.length cap] w fun e w' =>
      e = .returned (.tuple #[]) ∧ ∃ n os, w' = grow (putRow (Value.int .i64) (Sort.ahead w n) blk off (zs.mergeSort fun x y => decide (x ≤ y)).toArray) os := Any.slices_Sort_int Try.lays189 blk off cap zs w hH hblk hsz
def Try.lays190_ren : Go.Shelf.Ren := ⟨fun | 190 => 34 | 125 => 41 | 258 => 40 | 128 => 53 | 129 => 54 | 302 => 44 | 303 => 45 | 304 => 46 | 305 => 47 | 306 => 48 | 307 => 49 | 308 => 50 | 309 => 51 | 310 => 52 | 333 => 65 | 329 => 66 | 330 => 67 | 334 => 68 | 335 => 69 | 336 => 70 | 344 => 75 | n => n, fun | 31 => 24 | 9 => 9 | 3 => 3 | 46 => 80 | 0 => 0 | 51 => 92 | 53 => 94 | 4 => 4 | 183 => 85 | 182 => 84 | 131 => 69 | 5 => 5 | 218 => 102 | 222 => 106 | 228 => 111 | 229 => 112 | n => n, fun | n => n⟩
theorem Try.lays190 : Go.Proofs.Lays.n190 Try.prog Try.lays190_ren := {
  mixed := by kernel_rfl
  f125 := Try.func41.trans (congrArg some (by kernel_rfl))
  f128 := Try.func53.trans (congrArg some (by kernel_rfl))
  f129 := Try.func54.trans (congrArg some (by kernel_rfl))
  f190 := Try.func34.trans (congrArg some (by kernel_rfl))
  f258 := Try.func40.trans (congrArg some (by kernel_rfl))
  f302 := Try.func44.trans (congrArg some (by kernel_rfl))
  f303 := Try.func45.trans (congrArg some (by kernel_rfl))
  f304 := Try.func46.trans (congrArg some (by kernel_rfl))
  f305 := Try.func47.trans (congrArg some (by kernel_rfl))
  f306 := Try.func48.trans (congrArg some (by kernel_rfl))
  f307 := Try.func49.trans (congrArg some (by kernel_rfl))
  f308 := Try.func50.trans (congrArg some (by kernel_rfl))
  f309 := Try.func51.trans (congrArg some (by kernel_rfl))
  f310 := Try.func52.trans (congrArg some (by kernel_rfl))
  f329 := Try.func66.trans (congrArg some (by kernel_rfl))
  f330 := Try.func67.trans (congrArg some (by kernel_rfl))
  f333 := Try.func65.trans (congrArg some (by kernel_rfl))
  f334 := Try.func68.trans (congrArg some (by kernel_rfl))
  f335 := Try.func69.trans (congrArg some (by kernel_rfl))
  f336 := Try.func70.trans (congrArg some (by kernel_rfl))
  f344 := Try.func75.trans (congrArg some (by kernel_rfl))
  t0 := Try.underlying0
  a0 := Try.isAgg0
  z0 := Try.sizeOf0
  v0 := Try.zeroValue0
  t3 := Try.underlying3
  a3 := Try.isAgg3
  z3 := Try.sizeOf3
  v3 := Try.zeroValue3
  t4 := Try.underlying4
  a4 := Try.isAgg4
  z4 := Try.sizeOf4
  v4 := Try.zeroValue4
  t5 := Try.underlying5
  a5 := Try.isAgg5
  z5 := Try.sizeOf5
  v5 := Try.zeroValue5
  t9 := Try.underlying9
  a9 := Try.isAgg9
  z9 := Try.sizeOf9
  v9 := Try.zeroValue9
  t31 := Try.underlying24
  a31 := Try.isAgg24
  z31 := Try.sizeOf24
  v31 := Try.zeroValue24
  t46 := Try.underlying80
  a46 := Try.isAgg80
  z46 := Try.sizeOf80
  v46 := Try.zeroValue80
  t51 := Try.underlying92
  a51 := Try.isAgg92
  z51 := Try.sizeOf92
  v51 := Try.zeroValue92
  t53 := Try.underlying94
  a53 := Try.isAgg94
  z53 := Try.sizeOf94
  v53 := Try.zeroValue94
  t131 := Try.underlying69
  a131 := Try.isAgg69
  z131 := Try.sizeOf69
  v131 := Try.zeroValue69
  t182 := Try.underlying84
  a182 := Try.isAgg84
  z182 := Try.sizeOf84
  v182 := Try.zeroValue84
  t183 := Try.underlying85
  a183 := Try.isAgg85
  z183 := Try.sizeOf85
  v183 := Try.zeroValue85
  t218 := Try.underlying102
  a218 := Try.isAgg102
  z218 := Try.sizeOf102
  v218 := Try.zeroValue102
  t222 := Try.underlying106
  a222 := Try.isAgg106
  z222 := Try.sizeOf106
  v222 := Try.zeroValue106
  t228 := Try.underlying111
  a228 := Try.isAgg111
  z228 := Try.sizeOf111
  v228 := Try.zeroValue111
  t229 := Try.underlying112
  a229 := Try.isAgg112
  z229 := Try.sizeOf112
  v229 := Try.zeroValue112 }
open Go.Sort Go.RowKit in
theorem Try.slices_Sort_string (blk off cap : Nat) (ss : List (List UInt8)) (w : World) (hH : Holds encStr w blk off ss.toArray) (hblk : blk < w.heap.size) (hsz : ss.length < 4611686018427387904) :
    Calls Try.prog 34 #[.slice (some ⟨blk, off, none⟩) ss.length cap] w fun e w' =>
      e = .returned (.tuple #[]) ∧ ∃ n os, w' = grow (putRow encStr (Sort.ahead w n) blk off (ss.mergeSort fun x y => decide (x ≤ y)).toArray) os := Any.slices_Sort_string Try.lays190 blk off cap ss w hH hblk hsz
def Try.laysNm215_ren : Go.Shelf.Ren := ⟨fun | 15 => 38 | n => n, fun | 22 => 26 | 3 => 3 | 4 => 4 | n => n, fun | n => n⟩
theorem Try.laysNm215 : Go.Proofs.Lays2.n15 Try.prog Try.laysNm215_ren := {
  mixed := by kernel_rfl
  f15 := Try.func38.trans (congrArg some (by kernel_rfl))
  t3 := Try.underlying3
  a3 := Try.isAgg3
  z3 := Try.sizeOf3
  v3 := Try.zeroValue3
  t4 := Try.underlying4
  a4 := Try.isAgg4
  z4 := Try.sizeOf4
  v4 := Try.zeroValue4
  t22 := Try.underlying26
  a22 := Try.isAgg26
  z22 := Try.sizeOf26
  v22 := Try.zeroValue26
  i3 := by kernel_rfl }
open Go.RowKit Go.Lib in
/-- slices.Clone at []int: "Clone returns a copy of the slice. The elements are copied using assignment, so this is a shallow clone. The result may have additional unused capacity. The result preserves the nilness of s.": OF A SLICE THAT IS NOT nil IT RETURNS A SLICE THAT IS NOT nil, OF THE SAME ELEMENTS, IN MEMORY OF THE CALL's OWN: in the how-to's words (6f): 'w'.ownsRow B e 1 v' n cells': v' begins at the head of a row among the blocks from B on (B: the heap's size at the call), not frozen, whose first cells are the elements · 'Below B w w'': below B all is as it was. The capacity is whatever the run-time gives. 'zs': what the cells behind the slice's address hold; 'zs.take n': its elements. (LAID: no walk: one application.) -/
theorem Try.slices_Clone_int (b off n c : Nat) (zs : List Int) (w : World) (hz : n ≤ zs.length) (hbig : n * 8 ≤ 140737488355328) (hc : ∀ j, j < zs.length → w.cell? ⟨b, off + j, none⟩ = some (.int .i64 (zs.getD j 0))) :
    Calls Try.prog 38 #[.slice (some ⟨b, off, none⟩) n c] w fun e w' => ∃ v', e = .returned v' ∧ w'.ownsRow w.heap.size 3 1 v' n ((zs.take n).map (Value.int .i64)) ∧ v' ≠ .slice none 0 0 ∧ Below w.heap.size w w' := Any.slices_Clone_int Try.laysNm215 b off n c zs w hz hbig hc
open Go.RowKit Go.Lib in
/-- The same at nil: nil comes back; the world is as it was. (LAID: no walk: one application.) -/
theorem Try.slices_Clone_int_nil (n c : Nat) (w : World) :
    Calls Try.prog 38 #[.slice none n c] w fun e w' => e = .returned (.slice none 0 0) ∧ w' = w := Any.slices_Clone_int_nil Try.laysNm215 n c w
open Go.RowKit Go.Lib in
/-- The same at a slice of length 0 that is not nil, WHATEVER ITS ADDRESS (no cell is asked for): a slice that is not nil and owns nothing comes back. (LAID: no walk: one application.) -/
theorem Try.slices_Clone_int_zero (a : Addr) (c : Nat) (w : World) :
    Calls Try.prog 38 #[.slice (some a) 0 c] w fun e w' => ∃ v', e = .returned v' ∧ w'.ownsRow w.heap.size 3 1 v' 0 [] ∧ v' ≠ .slice none 0 0 ∧ Below w.heap.size w w' := Any.slices_Clone_int_zero Try.laysNm215 a c w
def Try.laysNm220_ren : Go.Shelf.Ren := ⟨fun | 20 => 36 | n => n, fun | 22 => 26 | 3 => 3 | 4 => 4 | 0 => 0 | n => n, fun | n => n⟩
theorem Try.laysNm220 : Go.Proofs.Lays2.n20 Try.prog Try.laysNm220_ren := {
  mixed := by kernel_rfl
  f20 := Try.func36.trans (congrArg some (by kernel_rfl))
  t0 := Try.underlying0
  a0 := Try.isAgg0
  z0 := Try.sizeOf0
  v0 := Try.zeroValue0
  t3 := Try.underlying3
  a3 := Try.isAgg3
  z3 := Try.sizeOf3
  v3 := Try.zeroValue3
  t4 := Try.underlying4
  a4 := Try.isAgg4
  z4 := Try.sizeOf4
  v4 := Try.zeroValue4
  t22 := Try.underlying26
  a22 := Try.isAgg26
  z22 := Try.sizeOf26
  v22 := Try.zeroValue26
  i3 := by kernel_rfl }
open Go.RowKit Go.Lib Go.Sort in
/-- slices.Compact at []int, over an array: the library's two loops are walked. (LAID: no walk: one application.) -/
theorem Try.slices_Compact_int_arr (blk off cap : Nat) (d : Array Int) (w : World) (hH : Holds encI w blk off d) (hsz : d.size ≤ 9223372036854775807) (hcap : d.size ≤ cap) :
    Calls Try.prog 36 #[.slice (some ⟨blk, off, none⟩) d.size cap] w fun e w' => e = .returned (.slice (some ⟨blk, off, none⟩) (compactUpTo d d.size).length cap) ∧ ∃ q, w' = putRow encI (Sort.ahead w q) blk off (compactUpTo d d.size ++ List.replicate (d.size - (compactUpTo d d.size).length) 0).toArray := Any.slices_Compact_int_arr Try.laysNm220 blk off cap d w hH hsz hcap
open Go.RowKit Go.Lib Go.Sort in
/-- slices.Compact at []int: "Compact replaces consecutive runs of equal elements with a single copy. This is like the uniq command found on Unix. Compact modifies the contents of the slice s and returns the modified slice, which may have a smaller length. Compact zeroes the elements between the new length and the original length. The result preserves the nilness of s.": IT RETURNS THE SLICE CUT TO 'Lib.compact zs'; ITS CELLS HOLD 'Lib.compact zs', THEN ZERO VALUES up to the old length; all else is as it was, but for the count of draws. IN THE WORDS OF slices.Sort's CONTRACT ('Holds', 'putRow'): so the everyday 'slices.Sort(xs); xs = slices.Compact(xs)' goes from the one contract to the other. It asks 'zs.length ≤ cap' (every slice's: the reslicing 's[:k]' looks at it). Length 0, nil: '.._empty'. (LAID: no walk: one application.) -/
theorem Try.slices_Compact_int (blk off cap : Nat) (zs : List Int) (w : World) (hH : Holds (Value.int .i64) w blk off zs.toArray) (hsz : zs.length ≤ 9223372036854775807) (hcap : zs.length ≤ cap) :
    Calls Try.prog 36 #[.slice (some ⟨blk, off, none⟩) zs.length cap] w fun e w' => e = .returned (.slice (some ⟨blk, off, none⟩) (Lib.compact zs).length cap) ∧ ∃ q, w' = putRow (Value.int .i64) (Sort.ahead w q) blk off (Lib.compact zs ++ List.replicate (zs.length - (Lib.compact zs).length) 0).toArray := Any.slices_Compact_int Try.laysNm220 blk off cap zs w hH hsz hcap
open Go.RowKit Go.Lib Go.Sort in
/-- The same at a slice of length 0, a nil one too: it comes back as it is. (LAID: no walk: one application.) -/
theorem Try.slices_Compact_int_empty (a : Option Addr) (cap : Nat) (w : World) :
    Calls Try.prog 36 #[.slice a 0 cap] w fun e w' => e = .returned (.slice a 0 cap) ∧ w' = w := Any.slices_Compact_int_empty Try.laysNm220 a cap w
open Go.RowKit Go.Lib Go.Sort in
/-- slices.Compact at []int, of an argument: the slice cut to 'Lib.compact (elements)'; the n cells hold that, then zeros. (LAID: no walk: one application.) -/
theorem Try.slices_Compact_int_cells (b off n c : Nat) (zs : List Int) (w : World) (hz : n ≤ zs.length) (hbig : n ≤ 9223372036854775807) (hcap : n ≤ c) (hc : ∀ j, j < zs.length → w.cell? ⟨b, off + j, none⟩ = some (.int .i64 (zs.getD j 0))) (hf : ∀ j, j < n → w.frozen? ⟨b, off + j, none⟩ = false) :
    Calls Try.prog 36 #[.slice (some ⟨b, off, none⟩) n c] w fun e w' => e = .returned (.slice (some ⟨b, off, none⟩) (Lib.compact (zs.take n)).length c) ∧ ∃ q, w' = (w.drewN q).setCells b off ((Lib.compact (zs.take n) ++ List.replicate (n - (Lib.compact (zs.take n)).length) 0).map (Value.int .i64)) := Any.slices_Compact_int_cells Try.laysNm220 b off n c zs w hz hbig hcap hc hf
open Go.RowKit Go.Sort in
/-- .. and plain. (LAID: no walk: one application.) -/
theorem Try.slices_Sort_string_none (p : Option Addr) (cap : Nat) (w : World) :
    Calls Try.prog 34 #[.slice p 0 cap] w fun e w' => e = .returned (.tuple #[]) ∧ w' = w := Any.slices_Sort_string_none Try.lays190 p cap w
open Go.RowKit Go.Sort in
/-- .. and plain. (LAID: no walk: one application.) -/
theorem Try.slices_Sort_int_none (p : Option Addr) (cap : Nat) (w : World) :
    Calls Try.prog 35 #[.slice p 0 cap] w fun e w' => e = .returned (.tuple #[]) ∧ w' = w := Any.slices_Sort_int_none Try.lays189 p cap w
end Go.Proofs
