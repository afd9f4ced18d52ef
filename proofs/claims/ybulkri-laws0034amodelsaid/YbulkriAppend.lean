/-
  'append' of one element onto a slice of the call's own, at this program's types.
-/
import Derived.Test.YbulkriProg
import Derived.Test.YbulkriHeap
import Derived.KernelRfl
namespace Go.Proofs.Ybulkri
open Go.RowKit

theorem info3 : (Yba.prog.info? 3).map (fun i => (i.zero, i.size, i.bytes)) = some (some (.int .i64 0), 1, 8) := by kernel_rfl
theorem info9 : (Yba.prog.info? 9).map (fun i => (i.zero, i.size, i.bytes)) = some (some (.string ByteArray.empty), 1, 16) := by kernel_rfl
theorem info34 : (Yba.prog.info? 34).map (fun i => (i.zero, i.size, i.bytes)) = some (some (.agg #[.int .u8 0, .int .i64 0, .int .i64 0]), 3, 24) := by kernel_rfl

/-- '[]int' -/
theorem app29 {w : World} {ops : Array Oper} {rest : List Oper} {o : Oper} {a : Act} {Q : Exit → Act → World → Prop} (hgd : o.guard = none) (s x : Operand)
    (ho : o.op = .call { callee := .builtin .append, args := #[s, x], argTypes := #[29, 29] })
    (base : Nat) (v : Value) (n : Nat) (xs : List Value) (y : Int) (hs : a.eval s = v) (z : Nat) (hx : a.eval x = .slice (some ⟨z, 0, none⟩) 1 1) (hz : z = w.heap.size)
    (hown : w.ownsRow base 3 1 v n xs) (hn : n ≤ 1000000) (hbase : base ≤ w.heap.size)
    (h : ∀ g c w', w'.ownsRow base 3 1 (.slice (some ⟨g, 0, none⟩) (n + 1) c) (n + 1) (xs ++ [.int .i64 y]) → (w.alloc (.cells #[.int .i64 y] 3)).grownBy w' v.ownBlock → (some g = v.ownBlock ∨ g = w.heap.size + 1) → wpList Yba.prog ops Q rest (a.put o.dst (.slice (some ⟨g, 0, none⟩) (n + 1) c)) w') :
    wpList Yba.prog ops Q (o :: rest) a (w.alloc (.cells #[.int .i64 y] 3)) := by
  subst hz
  obtain ⟨i3, hi, hz0, hz1, hz2⟩ := info_parts info3
  refine wpList_append_own_at _ hgd s x 29 ho base 3 i3 (.int .i64 0) 1 8 Yba.underlying29 hi hz0 hz1 hz2 rfl (by decide) v n xs hs (hown.alloc _) ⟨w.heap.size, 0, none⟩ 1 1 [.int .i64 y] hx rfl (cell_one_new _ _ _) (by simp [Value.oneCell']) (by unfold maxLen; omega) (by omega) (by simp; omega) ?_
  intro v' w' h1 h2 _ h4
  obtain ⟨g, c, rfl, _⟩ := own_shape_pos h1 (by omega)
  exact h g c w' h1 h2 (by simpa [Value.ownBlock] using h4)

/-- '[]string' -/
theorem app30 {w : World} {ops : Array Oper} {rest : List Oper} {o : Oper} {a : Act} {Q : Exit → Act → World → Prop} (hgd : o.guard = none) (s x : Operand)
    (ho : o.op = .call { callee := .builtin .append, args := #[s, x], argTypes := #[30, 30] })
    (base : Nat) (v : Value) (n : Nat) (xs : List Value) (y : ByteArray) (hs : a.eval s = v) (z : Nat) (hx : a.eval x = .slice (some ⟨z, 0, none⟩) 1 1) (hz : z = w.heap.size)
    (hown : w.ownsRow base 9 1 v n xs) (hn : n ≤ 1000000) (hbase : base ≤ w.heap.size)
    (h : ∀ g c w', w'.ownsRow base 9 1 (.slice (some ⟨g, 0, none⟩) (n + 1) c) (n + 1) (xs ++ [.string y]) → (w.alloc (.cells #[.string y] 9)).grownBy w' v.ownBlock → (some g = v.ownBlock ∨ g = w.heap.size + 1) → wpList Yba.prog ops Q rest (a.put o.dst (.slice (some ⟨g, 0, none⟩) (n + 1) c)) w') :
    wpList Yba.prog ops Q (o :: rest) a (w.alloc (.cells #[.string y] 9)) := by
  subst hz
  obtain ⟨i3, hi, hz0, hz1, hz2⟩ := info_parts info9
  refine wpList_append_own_at _ hgd s x 30 ho base 9 i3 (.string ByteArray.empty) 1 16 Yba.underlying30 hi hz0 hz1 hz2 rfl (by decide) v n xs hs (hown.alloc _) ⟨w.heap.size, 0, none⟩ 1 1 [.string y] hx rfl (cell_one_new _ _ _) (by simp [Value.oneCell']) (by unfold maxLen; omega) (by omega) (by simp; omega) ?_
  intro v' w' h1 h2 _ h4
  obtain ⟨g, c, rfl, _⟩ := own_shape_pos h1 (by omega)
  exact h g c w' h1 h2 (by simpa [Value.ownBlock] using h4)

theorem cell_three_new (w : World) (x y z : Value) (t : TypeId) : ∀ j u, [x, y, z][j]? = some u → (w.alloc (.cells #[x, y, z] t)).cell? ((⟨w.heap.size, 0, none⟩ : Addr).add j) = some u := by
  intro j u hj
  match j, hj with
  | 0, hj => simp at hj; subst hj; simp [Addr.add]
  | 1, hj => simp at hj; subst hj; simp [Addr.add]
  | 2, hj => simp at hj; subst hj; simp [Addr.add]

/-- '[]op' -/
theorem app28 {w : World} {ops : Array Oper} {rest : List Oper} {o : Oper} {a : Act} {Q : Exit → Act → World → Prop} (hgd : o.guard = none) (s x : Operand)
    (ho : o.op = .call { callee := .builtin .append, args := #[s, x], argTypes := #[28, 28] })
    (base : Nat) (v : Value) (n : Nat) (xs : List Value) (y0 y1 y2 : Int) (hs : a.eval s = v) (z : Nat) (hx : a.eval x = .slice (some ⟨z, 0, none⟩) 1 1) (hz : z = w.heap.size)
    (hown : w.ownsRow base 34 3 v n xs) (hn : n ≤ 1000000) (hbase : base ≤ w.heap.size)
    (h : ∀ g c w', w'.ownsRow base 34 3 (.slice (some ⟨g, 0, none⟩) (n + 1) c) (n + 1) (xs ++ [.int .u8 y0, .int .i64 y1, .int .i64 y2]) → (w.alloc (.cells #[.int .u8 y0, .int .i64 y1, .int .i64 y2] 34)).grownBy w' v.ownBlock → (some g = v.ownBlock ∨ g = w.heap.size + 1) → wpList Yba.prog ops Q rest (a.put o.dst (.slice (some ⟨g, 0, none⟩) (n + 1) c)) w') :
    wpList Yba.prog ops Q (o :: rest) a (w.alloc (.cells #[.int .u8 y0, .int .i64 y1, .int .i64 y2] 34)) := by
  subst hz
  obtain ⟨i3, hi, hz0, hz1, hz2⟩ := info_parts info34
  refine wpList_append_own_at _ hgd s x 28 ho base 34 i3 (.agg #[.int .u8 0, .int .i64 0, .int .i64 0]) 3 24 Yba.underlying28 hi hz0 hz1 hz2 rfl (by decide) v n xs hs (hown.alloc _) ⟨w.heap.size, 0, none⟩ 1 1 [.int .u8 y0, .int .i64 y1, .int .i64 y2] hx rfl (cell_three_new _ _ _ _ _) (by simp [Value.oneCell']) (by unfold maxLen; omega) (by omega) (by simp; omega) ?_
  intro v' w' h1 h2 _ h4
  obtain ⟨g, c, rfl, _⟩ := own_shape_pos h1 (by omega)
  exact h g c w' h1 h2 (by simpa [Value.ownBlock] using h4)

end Go.Proofs.Ybulkri
