/-
  DERIVED: THE SHELF's CONTRACTS AT THIS DUMP, IN PLAIN WORDS (tools/lay-plain.mjs out of 'YbaShelf.lean', which tools/lay-shelf.mjs wrote): THE SAME DECLARATIONS UNDER THE SAME NAMES: 'import', 'namespace', 'open', 'def', 'theorem' AND NOTHING ELSE: no command of the shelf's: FOR A HAND-IN. Each laying: the table of numbers ('.._ren') and one theorem, a field a fact of the dump's own or the kernel's comparison; each contract: ONE APPLICATION.
-/
import Derived.Shelf.Small.Wraps
import Derived.Shelf.Strconv.Itoa0
import Derived.Shelf.Sort.Plain
import Derived.Shelf.Slices.Equal
import Derived.Ground.Names2Prog
import Derived.Shelf.Slices.Clone
import Derived.Shelf.Slices.In.SortNone
import Derived.Shelf.Slices.Empties2
import Derived.Test.YbulkriProg
namespace Go.Proofs
open Go.Shelf
def Yba.lays189_ren : Go.Shelf.Ren := ⟨fun | 189 => 19 | 125 => 29 | 257 => 28 | 128 => 42 | 129 => 43 | 294 => 33 | 295 => 34 | 296 => 35 | 297 => 36 | 298 => 37 | 299 => 38 | 216 => 39 | 300 => 40 | 301 => 41 | 328 => 45 | 329 => 46 | 330 => 47 | 331 => 48 | 332 => 49 | 215 => 32 | 343 => 50 | n => n, fun | 28 => 29 | 3 => 3 | 46 => 84 | 0 => 0 | 51 => 95 | 53 => 97 | 4 => 4 | 183 => 89 | 182 => 88 | 131 => 80 | 5 => 5 | 9 => 9 | 218 => 100 | 222 => 104 | 228 => 106 | 229 => 107 | n => n, fun | n => n⟩
theorem Yba.lays189 : Go.Proofs.Lays.n189 Yba.prog Yba.lays189_ren := {
  mixed := by kernel_rfl
  f125 := Yba.func29.trans (congrArg some (by kernel_rfl))
  f128 := Yba.func42.trans (congrArg some (by kernel_rfl))
  f129 := Yba.func43.trans (congrArg some (by kernel_rfl))
  f189 := Yba.func19.trans (congrArg some (by kernel_rfl))
  f215 := Yba.func32.trans (congrArg some (by kernel_rfl))
  f216 := Yba.func39.trans (congrArg some (by kernel_rfl))
  f257 := Yba.func28.trans (congrArg some (by kernel_rfl))
  f294 := Yba.func33.trans (congrArg some (by kernel_rfl))
  f295 := Yba.func34.trans (congrArg some (by kernel_rfl))
  f296 := Yba.func35.trans (congrArg some (by kernel_rfl))
  f297 := Yba.func36.trans (congrArg some (by kernel_rfl))
  f298 := Yba.func37.trans (congrArg some (by kernel_rfl))
  f299 := Yba.func38.trans (congrArg some (by kernel_rfl))
  f300 := Yba.func40.trans (congrArg some (by kernel_rfl))
  f301 := Yba.func41.trans (congrArg some (by kernel_rfl))
  f328 := Yba.func45.trans (congrArg some (by kernel_rfl))
  f329 := Yba.func46.trans (congrArg some (by kernel_rfl))
  f330 := Yba.func47.trans (congrArg some (by kernel_rfl))
  f331 := Yba.func48.trans (congrArg some (by kernel_rfl))
  f332 := Yba.func49.trans (congrArg some (by kernel_rfl))
  f343 := Yba.func50.trans (congrArg some (by kernel_rfl))
  t0 := Yba.underlying0
  a0 := Yba.isAgg0
  z0 := Yba.sizeOf0
  v0 := Yba.zeroValue0
  t3 := Yba.underlying3
  a3 := Yba.isAgg3
  z3 := Yba.sizeOf3
  v3 := Yba.zeroValue3
  t4 := Yba.underlying4
  a4 := Yba.isAgg4
  z4 := Yba.sizeOf4
  v4 := Yba.zeroValue4
  t5 := Yba.underlying5
  a5 := Yba.isAgg5
  z5 := Yba.sizeOf5
  v5 := Yba.zeroValue5
  t9 := Yba.underlying9
  a9 := Yba.isAgg9
  z9 := Yba.sizeOf9
  v9 := Yba.zeroValue9
  t28 := Yba.underlying29
  a28 := Yba.isAgg29
  z28 := Yba.sizeOf29
  v28 := Yba.zeroValue29
  t46 := Yba.underlying84
  a46 := Yba.isAgg84
  z46 := Yba.sizeOf84
  v46 := Yba.zeroValue84
  t51 := Yba.underlying95
  a51 := Yba.isAgg95
  z51 := Yba.sizeOf95
  v51 := Yba.zeroValue95
  t53 := Yba.underlying97
  a53 := Yba.isAgg97
  z53 := Yba.sizeOf97
  v53 := Yba.zeroValue97
  t131 := Yba.underlying80
  a131 := Yba.isAgg80
  z131 := Yba.sizeOf80
  v131 := Yba.zeroValue80
  t182 := Yba.underlying88
  a182 := Yba.isAgg88
  z182 := Yba.sizeOf88
  v182 := Yba.zeroValue88
  t183 := Yba.underlying89
  a183 := Yba.isAgg89
  z183 := Yba.sizeOf89
  v183 := Yba.zeroValue89
  t218 := Yba.underlying100
  a218 := Yba.isAgg100
  z218 := Yba.sizeOf100
  v218 := Yba.zeroValue100
  t222 := Yba.underlying104
  a222 := Yba.isAgg104
  z222 := Yba.sizeOf104
  v222 := Yba.zeroValue104
  t228 := Yba.underlying106
  a228 := Yba.isAgg106
  z228 := Yba.sizeOf106
  v228 := Yba.zeroValue106
  t229 := Yba.underlying107
  a229 := Yba.isAgg107
  z229 := Yba.sizeOf107
  v229 := Yba.zeroValue107 }
open Go.Sort Go.RowKit in
theorem Yba.slices_Sort_int (blk off cap : Nat) (zs : List Int) (w : World) (hH : Holds (Value.int .i64) w blk off zs.toArray) (hblk : blk < w.heap.size) (hsz : zs.length < 4611686018427387904) :
    Calls Yba.prog 19 #[.slice (some ⟨blk, off, none⟩) zs.length cap] w fun e w' =>
      e = .returned (.tuple #[]) ∧ ∃ n os, w' = grow (putRow (Value.int .i64) (Sort.ahead w n) blk off (zs.mergeSort fun x y => decide (x ≤ y)).toArray) os := Any.slices_Sort_int Yba.lays189 blk off cap zs w hH hblk hsz
def Yba.lays111_ren : Go.Shelf.Ren := ⟨fun | 111 => 10 | n => n, fun | 28 => 29 | 3 => 3 | 4 => 4 | 0 => 0 | n => n, fun | n => n⟩
theorem Yba.lays111 : Go.Proofs.Lays.n111 Yba.prog Yba.lays111_ren := {
  mixed := by kernel_rfl
  f111 := Yba.func10.trans (congrArg some (by kernel_rfl))
  t0 := Yba.underlying0
  a0 := Yba.isAgg0
  z0 := Yba.sizeOf0
  v0 := Yba.zeroValue0
  t3 := Yba.underlying3
  a3 := Yba.isAgg3
  z3 := Yba.sizeOf3
  v3 := Yba.zeroValue3
  t4 := Yba.underlying4
  a4 := Yba.isAgg4
  z4 := Yba.sizeOf4
  v4 := Yba.zeroValue4
  t28 := Yba.underlying29
  a28 := Yba.isAgg29
  z28 := Yba.sizeOf29
  v28 := Yba.zeroValue29 }
open Go.RowKit Go.Lib in
/-- slices.Equal at []int: whether the two lists of elements are one (LAID: no walk: one application.) -/
theorem Yba.slices_Equal_int (b1 o1 n c b2 o2 m d : Nat) (xs ys : List Int) (w : World) (hx : n ≤ xs.length) (hy : m ≤ ys.length) (hbig : n ≤ 9223372036854775807) (hbig2 : m ≤ 9223372036854775807) (hc1 : ∀ j, j < xs.length → w.cell? ⟨b1, o1 + j, none⟩ = some (.int .i64 (xs.getD j 0))) (hc2 : ∀ j, j < ys.length → w.cell? ⟨b2, o2 + j, none⟩ = some (.int .i64 (ys.getD j 0))) :
    Calls Yba.prog 10 #[.slice (some ⟨b1, o1, none⟩) n c, .slice (some ⟨b2, o2, none⟩) m d] w fun e w' => e = .returned (.bool (xs.take n == ys.take m)) ∧ ∃ q, w' = w.drewN q := Any.slices_Equal_int Yba.lays111 b1 o1 n c b2 o2 m d xs ys w hx hy hbig hbig2 hc1 hc2
open Go.RowKit Go.Lib in
/-- The same where the first is of length 0 (a nil one too): no cell is asked for. (LAID: no walk: one application.) -/
theorem Yba.slices_Equal_int_empty (a1 a2 : Option Addr) (c m d : Nat) (w : World) (hbig2 : m ≤ 9223372036854775807) :
    Calls Yba.prog 10 #[.slice a1 0 c, .slice a2 m d] w fun e w' => e = .returned (.bool (decide (m = 0))) ∧ w' = w := Any.slices_Equal_int_empty Yba.lays111 a1 a2 c m d w hbig2
open Go.RowKit Go.Sort in
/-- .. and plain. (LAID: no walk: one application.) -/
theorem Yba.slices_Sort_int_none (p : Option Addr) (cap : Nat) (w : World) :
    Calls Yba.prog 19 #[.slice p 0 cap] w fun e w' => e = .returned (.tuple #[]) ∧ w' = w := Any.slices_Sort_int_none Yba.lays189 p cap w
open Go.RowKit Go.Lib in
theorem Yba.slices_Equal_int_lens (a1 a2 : Option Addr) (n c m d : Nat) (w : World) (hnm : n ≠ m) :
    Calls Yba.prog 10 #[.slice a1 n c, .slice a2 m d] w fun e w' => e = .returned (.bool false) ∧ w' = w := Any.slices_Equal_int_lens Yba.lays111 a1 a2 n c m d w hnm
end Go.Proofs
