import Derived.Test.YbulkriProg
import Derived.Test.YbulkriHeap
import Derived.WalkKit
import Derived.WalkSpells
import Derived.WalkLawsBesides
import Derived.KernelRfl
import Derived.Laws.MakeOwn
namespace Go.Proofs.Ybulkri.A
open Go.RowKit
set_option linter.unusedVariables false

theorem info3 : (Yba.prog.info? 3).map (fun i => (i.zero, i.size, i.bytes)) = some (some (.int .i64 0), 1, 8) := by kernel_rfl

/-- a row of ints that fills its block -/
def IRow (w : World) (g : Nat) (zs : List Int) : Prop := Blk w g 3 (zs.map (Value.int .i64)).toArray

theorem make_ints (L : Nat) (hL : L ≤ 100000) : ∀ w : World, (Instr.makeSlice 29 (.int .i64 (L : Int)) (.int .i64 (L : Int))).run Yba.prog w = .ok (.slice (some ⟨w.heap.size, 0, none⟩) L L) (w.alloc (.cells (Array.replicate L (Value.int .i64 0)) 3)) := by
  obtain ⟨i, hi, h0, h1, h2⟩ := info_parts info3
  intro w
  have := run_make (P := Yba.prog) w 29 3 i _ Yba.underlying29 hi h0 .i64 .i64 (L : Int) (L : Int) (by omega) (by omega) (by rw [h2]; omega) (by omega)
  rw [this, h1]
  have hm : madeCells (Value.int .i64 0).cells ((L : Int).toNat * 1) = Array.replicate L (Value.int .i64 0) := by
    apply Array.ext
    · simp [madeCells]
    · intro j h1 h2
      simp [madeCells, Value.cells, Nat.mod_one]
  rw [hm]
  rfl

set_option maxHeartbeats 400000 in
theorem resized_nil (w : World) (n : Nat) (hn : 0 < n) (hL : n ≤ 100000) :
    Calls Yba.prog 44 #[.slice none 0 0, .int .i64 n] w fun e w' => e = .returned (.slice (some ⟨w.heap.size, 0, none⟩) n n) ∧ w' = w.alloc (.cells (Array.replicate n (Value.int .i64 0)) 3) := by
  have hmk := make_ints n hL
  have d0 : decide ((0 : Int) < (n : Int)) = true := by simp; omega
  go_enter Yba.func44, Yba.ntmps44
  go_wp2
  go_ret
  exact ⟨rfl, rfl⟩

set_option maxRecDepth 10000 in
set_option maxHeartbeats 400000 in
theorem resized_zero (w : World) : Calls Yba.prog 44 #[.slice none 0 0, .int .i64 0] w fun e w' => e = .returned (.slice none 0 0) ∧ w' = w := by
  have hcl : ∀ ty, (Builtin.clear_ #[29] ty #[.slice none 0 0]).run Yba.prog w = .ok (.tuple #[]) w := fun ty => by simp [Builtin.clear_, run_underlying Yba.underlying29]
  go_enter Yba.func44, Yba.ntmps44
  go_wp2
  go_ret
  exact ⟨rfl, rfl⟩
end Go.Proofs.Ybulkri.A
