/-
  (*keyIndex).clone, walked.
-/
import Derived.Test.YbulktmClone
namespace Go.Proofs.Ybulktm
open Go.RowKit
set_option linter.unusedVariables false

set_option maxHeartbeats 1000000 in
set_option maxRecDepth 100000 in
/-- (*keyIndex).clone -/
theorem key_clone {w : World} {K q n cap : Nat} {ao : Option Addr} {count seed : Int} {xs : List Int} (hn : n ≤ 4096)
    (hK : Blk w K 51 #[.slice (some ⟨q, 0, none⟩) 1 1, .slice ao n cap, .int .i64 count, .int .u64 seed])
    (hs : SlAt w w.heap.size ao n cap (xs.map (Value.int .u32))) :
    Calls Yba.prog 13 #[.pointer (some ⟨K, 0, none⟩)] w fun e w' => ∃ K' a' c', e = .returned (.pointer (some ⟨K', 0, none⟩)) ∧ w.heap.size ≤ K' ∧ Blk w' K' 51 #[.slice (some ⟨q, 0, none⟩) 1 1, .slice a' n c', .int .i64 count, .int .u64 seed] ∧ OwnSl w' w.heap.size 58 a' n c' (xs.map (Value.int .u32)) ∧ Below w.heap.size w w' := by
  have k0 : w.cell? ⟨K, 0, none⟩ = some (.slice (some ⟨q, 0, none⟩) 1 1) := hK.cellOf rfl
  have k1 : w.cell? ⟨K, 1, none⟩ = some (.slice ao n cap) := hK.cellOf rfl
  have k2 : w.cell? ⟨K, 2, none⟩ = some (.int .i64 count) := hK.cellOf rfl
  have k3 : w.cell? ⟨K, 3, none⟩ = some (.int .u64 seed) := hK.cellOf rfl
  have lK := hK.lt
  go_enter Yba.func13, Yba.ntmps13
  go_upto_region 2 with fail
  have hb1 := (Below.refl w.heap.size w).alloc (Nat.le_refl _) (Obj.cells #[Value.slice (some ⟨q, 0, none⟩) 1 1, Value.slice ao n cap, Value.int .i64 count, Value.int .u64 seed] 51)
  have hn1 := Blk.new w 51 #[Value.slice (some ⟨q, 0, none⟩) 1 1, Value.slice ao n cap, Value.int .i64 count, Value.int .u64 seed]
  generalize w.alloc (Obj.cells #[Value.slice (some ⟨q, 0, none⟩) 1 1, Value.slice ao n cap, Value.int .i64 count, Value.int .u64 seed] 51) = W1 at *
  have j1 : W1.cell? ⟨K, 1, none⟩ = some (.slice ao n cap) := (hb1.cell (p := ⟨K, 1, none⟩) lK).trans k1
  clear k0 k1 k2 k3
  obtain ⟨i58, hi58, hi580, hi581, hi582⟩ := info_parts info58
  go_upto_region 3 with (first | (refine wpList_app (by rfl) (.tmp 10) 25 (by rfl) 58 i58 (.int .u32 0) 4 Yba.underlying25 hi58 hi580 hi581 hi582 rfl (by decide) w.heap.size _ _ _ _ (by rfl) (hs.later hb1) (ints_oneCell _ _) (by omega) ?_; intro a1 c1 w1 hown1 hgrow1; have hn2 := hn1.grown hgrow1 (by simp); have t1 := hn2.cellOf (j := 1) rfl; have t2 := hn2.frozen 1))
  have hn3 := hn2.set 1 (.slice a1 n c1)
  have hb2 := hb1.grown hgrow1 hb1.size (fun k e => by cases e)
  have hb3 := hb2.setCell (p := ⟨w.heap.size, 1, none⟩) (Nat.le_refl _) (.slice a1 n c1)
  have ho3 := ((OwnSl.mk' hown1).set hn2 (by decide) 1 (.slice a1 n c1)).mono hb1.size
  clear hn2 hown1 hgrow1 t1 t2 hb2
  generalize w1.setCell ⟨w.heap.size, 1, none⟩ (.slice a1 n c1) = W2 at *
  go_wp2_with fail
  exact bodyPost_ret (v := .pointer (some ⟨w.heap.size, 0, none⟩)) (by simp [results]) rfl ⟨_, _, _, rfl, Nat.le_refl _, hn3, ho3, hb3⟩
end Go.Proofs.Ybulktm
