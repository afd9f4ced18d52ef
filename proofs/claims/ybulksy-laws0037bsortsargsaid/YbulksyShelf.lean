/-
  The shelf contracts of slices.Clone and slices.Sort, laid at this program by the kit (lay-shelf, lay-plain).
-/
import Derived.Ground.SlgnProg
import Derived.Shelf.SlicesG.Clone
import Derived.Ground.SlgmProg
import Derived.Shelf.SortM.Plain
import Derived.Shelf.SortM.SortNone
import Derived.Test.YbulksyProg
namespace Go.Proofs
open Go.Shelf
def Yba.laysSlN41_f5_ren : Go.Shelf.Ren := ⟨fun | 41 => 5 | n => n, fun | 22 => 22 | 23 => 2 | 4 => 4 | n => n, fun | n => n⟩
theorem Yba.laysSlN41_f5 : Go.Proofs.SlLaysN.n41 Yba.prog Yba.laysSlN41_f5_ren := {
  mixed := by kernel_rfl
  f41 := ⟨Yba.f5.name, by decide, Yba.func5.trans (congrArg some (by kernel_rfl))⟩
  t4 := Yba.underlying4
  a4 := Yba.isAgg4
  z4 := Yba.sizeOf4
  v4 := Yba.zeroValue4
  t22 := Yba.underlying22
  a22 := Yba.isAgg22
  z22 := Yba.sizeOf22
  v22 := Yba.zeroValue22
  t23 := Yba.underlying2
  a23 := Yba.isAgg2
  z23 := Yba.sizeOf2
  v23 := Yba.zeroValue2
  i23 := by kernel_rfl }
open Go.RowKit Go.Lib in
theorem Yba.slices_Clone_int (b off n c : Nat) (zs : List Int) (w : World) (hz : n ≤ zs.length) (hbig : n * 8 ≤ 140737488355328) (hc : ∀ j, j < zs.length → w.cell? ⟨b, off + j, none⟩ = some (.int .i64 (zs.getD j 0))) :
    Calls Yba.prog 5 #[.slice (some ⟨b, off, none⟩) n c] w fun e w' => ∃ v', e = .returned v' ∧ w'.ownsRow w.heap.size 2 1 v' n ((zs.take n).map (Value.int .i64)) ∧ v' ≠ .slice none 0 0 ∧ Below w.heap.size w w' := AnyG.slices_Clone_int Yba.laysSlN41_f5 b off n c zs w hz hbig hc
open Go.RowKit Go.Lib in
theorem Yba.slices_Clone_int_nil (n c : Nat) (w : World) :
    Calls Yba.prog 5 #[.slice none n c] w fun e w' => e = .returned (.slice none 0 0) ∧ w' = w := AnyG.slices_Clone_int_nil Yba.laysSlN41_f5 n c w
open Go.RowKit Go.Lib in
theorem Yba.slices_Clone_int_zero (a : Addr) (c : Nat) (w : World) :
    Calls Yba.prog 5 #[.slice (some a) 0 c] w fun e w' => ∃ v', e = .returned v' ∧ w'.ownsRow w.heap.size 2 1 v' 0 [] ∧ v' ≠ .slice none 0 0 ∧ Below w.heap.size w w' := AnyG.slices_Clone_int_zero Yba.laysSlN41_f5 a c w
def Yba.laysSlM5_f8_ren : Go.Shelf.Ren := ⟨fun | 5 => 8 | 8 => 10 | 7 => 9 | 19 => 20 | 20 => 21 | 10 => 11 | 11 => 12 | 12 => 13 | 13 => 14 | 14 => 15 | 15 => 16 | 16 => 17 | 17 => 18 | 18 => 19 | 30 => 22 | 31 => 23 | 32 => 24 | 33 => 25 | 34 => 26 | 35 => 27 | 40 => 28 | n => n, fun | 23 => 22 | 25 => 2 | 3 => 3 | 32 => 30 | 22 => 22 | 0 => 0 | 44 => 41 | 46 => 43 | 4 => 4 | 36 => 33 | 35 => 32 | 41 => 38 | 5 => 5 | 9 => 9 | 53 => 44 | 57 => 48 | 63 => 51 | 64 => 52 | n => n, fun | n => n⟩
theorem Yba.laysSlM5_f8 : Go.Proofs.SlLaysM.n5 Yba.prog Yba.laysSlM5_f8_ren := {
  mixed := by kernel_rfl
  f5 := ⟨Yba.f8.name, by decide, Yba.func8.trans (congrArg some (by kernel_rfl))⟩
  f7 := ⟨Yba.f9.name, by decide, Yba.func9.trans (congrArg some (by kernel_rfl))⟩
  f8 := Yba.func10.trans (congrArg some (by kernel_rfl))
  f10 := ⟨Yba.f11.name, by decide, Yba.func11.trans (congrArg some (by kernel_rfl))⟩
  f11 := ⟨Yba.f12.name, by decide, Yba.func12.trans (congrArg some (by kernel_rfl))⟩
  f12 := ⟨Yba.f13.name, by decide, Yba.func13.trans (congrArg some (by kernel_rfl))⟩
  f13 := ⟨Yba.f14.name, by decide, Yba.func14.trans (congrArg some (by kernel_rfl))⟩
  f14 := ⟨Yba.f15.name, by decide, Yba.func15.trans (congrArg some (by kernel_rfl))⟩
  f15 := ⟨Yba.f16.name, by decide, Yba.func16.trans (congrArg some (by kernel_rfl))⟩
  f16 := ⟨Yba.f17.name, by decide, Yba.func17.trans (congrArg some (by kernel_rfl))⟩
  f17 := ⟨Yba.f18.name, by decide, Yba.func18.trans (congrArg some (by kernel_rfl))⟩
  f18 := ⟨Yba.f19.name, by decide, Yba.func19.trans (congrArg some (by kernel_rfl))⟩
  f19 := Yba.func20.trans (congrArg some (by kernel_rfl))
  f20 := Yba.func21.trans (congrArg some (by kernel_rfl))
  f30 := ⟨Yba.f22.name, by decide, Yba.func22.trans (congrArg some (by kernel_rfl))⟩
  f31 := Yba.func23.trans (congrArg some (by kernel_rfl))
  f32 := Yba.func24.trans (congrArg some (by kernel_rfl))
  f33 := ⟨Yba.f25.name, by decide, Yba.func25.trans (congrArg some (by kernel_rfl))⟩
  f34 := ⟨Yba.f26.name, by decide, Yba.func26.trans (congrArg some (by kernel_rfl))⟩
  f35 := ⟨Yba.f27.name, by decide, Yba.func27.trans (congrArg some (by kernel_rfl))⟩
  f40 := ⟨Yba.f28.name, by decide, Yba.func28.trans (congrArg some (by kernel_rfl))⟩
  t0 := Yba.underlying0
  a0 := Yba.isAgg0
  z0 := Yba.sizeOf0
  v0 := Yba.zeroValue0
  t3 := Yba.underlying3
  a3 := Yba.isAgg3
  z3 := Yba.sizeOf3
  v3 := Yba.zeroValue3
  t4 := Yba.underlying4
  a4 := Yba.isAgg4
  z4 := Yba.sizeOf4
  v4 := Yba.zeroValue4
  t5 := Yba.underlying5
  a5 := Yba.isAgg5
  z5 := Yba.sizeOf5
  v5 := Yba.zeroValue5
  t9 := Yba.underlying9
  a9 := Yba.isAgg9
  z9 := Yba.sizeOf9
  v9 := Yba.zeroValue9
  t22 := Yba.underlying22
  a22 := Yba.isAgg22
  z22 := Yba.sizeOf22
  v22 := Yba.zeroValue22
  t23 := Yba.underlying22
  a23 := Yba.isAgg22
  z23 := Yba.sizeOf22
  v23 := Yba.zeroValue22
  t25 := Yba.underlying2
  a25 := Yba.isAgg2
  z25 := Yba.sizeOf2
  v25 := Yba.zeroValue2
  t32 := Yba.underlying30
  a32 := Yba.isAgg30
  z32 := Yba.sizeOf30
  v32 := Yba.zeroValue30
  t35 := Yba.underlying32
  a35 := Yba.isAgg32
  z35 := Yba.sizeOf32
  v35 := Yba.zeroValue32
  t36 := Yba.underlying33
  a36 := Yba.isAgg33
  z36 := Yba.sizeOf33
  v36 := Yba.zeroValue33
  t41 := Yba.underlying38
  a41 := Yba.isAgg38
  z41 := Yba.sizeOf38
  v41 := Yba.zeroValue38
  t44 := Yba.underlying41
  a44 := Yba.isAgg41
  z44 := Yba.sizeOf41
  v44 := Yba.zeroValue41
  t46 := Yba.underlying43
  a46 := Yba.isAgg43
  z46 := Yba.sizeOf43
  v46 := Yba.zeroValue43
  t53 := Yba.underlying44
  a53 := Yba.isAgg44
  z53 := Yba.sizeOf44
  v53 := Yba.zeroValue44
  t57 := Yba.underlying48
  a57 := Yba.isAgg48
  z57 := Yba.sizeOf48
  v57 := Yba.zeroValue48
  t63 := Yba.underlying51
  a63 := Yba.isAgg51
  z63 := Yba.sizeOf51
  v63 := Yba.zeroValue51
  t64 := Yba.underlying52
  a64 := Yba.isAgg52
  z64 := Yba.sizeOf52
  v64 := Yba.zeroValue52 }
open Go.Sort Go.RowKit in
theorem Yba.slices_Sort_int (blk off cap : Nat) (zs : List Int) (w : World) (hH : Holds (Value.int .i64) w blk off zs.toArray) (hblk : blk < w.heap.size) (hsz : zs.length < 4611686018427387904) :
    Calls Yba.prog 8 #[.slice (some ⟨blk, off, none⟩) zs.length cap] w fun e w' =>
      e = .returned (.tuple #[]) ∧ ∃ n os, w' = grow (putRow (Value.int .i64) (Sort.ahead w n) blk off (zs.mergeSort fun x y => decide (x ≤ y)).toArray) os := AnyM.slices_Sort_int Yba.laysSlM5_f8 blk off cap zs w hH hblk hsz
open Go.RowKit Go.Sort in
theorem Yba.slices_Sort_int_none (p : Option Addr) (cap : Nat) (w : World) :
    Calls Yba.prog 8 #[.slice p 0 cap] w fun e w' => e = .returned (.tuple #[]) ∧ w' = w := AnyM.slices_Sort_int_none Yba.laysSlM5_f8 p cap w
end Go.Proofs
