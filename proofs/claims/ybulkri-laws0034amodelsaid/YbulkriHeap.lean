/-
  Blocks of cells that the call itself made: small laws (over any program).
-/
import Derived.WalkKit
import Derived.Maps.AppendAt
namespace Go.Proofs.Ybulkri
open Go.RowKit

/-- Block g is a row of cells of element type e, none of it frozen. -/
def Blk (w : World) (g : Nat) (e : TypeId) (cur : Array Value) : Prop := w.heap[g]? = some (.cells cur e (0, 0))

section
variable {w : World} {g : Nat} {e : TypeId} {cur : Array Value}

theorem Blk.cell (h : Blk w g e cur) (j : Nat) : w.cell? ⟨g, j, none⟩ = cur[j]? := cell_of_row w g j cur e (0, 0) h
theorem Blk.cellOf (h : Blk w g e cur) {j : Nat} {v : Value} (hj : cur[j]? = some v) : w.cell? ⟨g, j, none⟩ = some v := (h.cell j).trans hj
theorem Blk.frozen (h : Blk w g e cur) (j : Nat) : w.frozen? ⟨g, j, none⟩ = false := frozen_of_row w g j cur e h
theorem Blk.lt (h : Blk w g e cur) : g < w.heap.size := (Array.getElem?_eq_some_iff.1 h).1
theorem Blk.alloc (h : Blk w g e cur) (o : Obj) : Blk (w.alloc o) g e cur := by
  unfold Blk; rw [Below.heap_alloc _ _ _ h.lt]; exact h
theorem Blk.new (w : World) (e : TypeId) (cur : Array Value) : Blk (w.alloc (.cells cur e)) w.heap.size e cur := heap_alloc_new w _
theorem Blk.set (h : Blk w g e cur) (j : Nat) (u : Value) : Blk (w.setCell ⟨g, j, none⟩ u) g e (cur.setIfInBounds j u) := heap_setCell_same w g j cur e u h
theorem Blk.setOther (h : Blk w g e cur) {a : Addr} (ha : g ≠ a.block) (u : Value) : Blk (w.setCell a u) g e cur := by
  unfold Blk; rw [Below.heap_setCell _ _ _ _ ha]; exact h
theorem Blk.grown {w' : World} {row : Option Nat} (h : Blk w g e cur) (hg : w.grownBy w' row) (hne : some g ≠ row) : Blk w' g e cur := by
  unfold Blk; rw [hg.block g h.lt hne]; exact h
theorem Blk.below {w' : World} {B : Nat} (h : Blk w g e cur) (hb : Below B w w') (hlt : g < B) : Blk w' g e cur := by
  unfold Blk; rw [hb.block g hlt]; exact h
theorem Blk.drew (h : Blk w g e cur) : Blk w.drew g e cur := h
theorem Blk.ne {g' : Nat} {e' : TypeId} {cur' : Array Value} (h : Blk w g e cur) (h' : Blk w g' e' cur') (hne : e ≠ e') : g ≠ g' := by
  rintro rfl
  rw [Blk, h] at h'
  simp only [Option.some.injEq, Obj.cells.injEq] at h'
  exact hne h'.2.1

variable {base : Nat} {size : Nat} {v : Value} {n : Nat} {xs : List Value}

/-- an owned row is a block -/
theorem own_blk (h : w.ownsRow base e size v n xs) {k : Nat} (hk : v.ownBlock = some k) : ∃ cur, Blk w k e cur ∧ base ≤ k := by
  rcases h.2 with ⟨rfl, _⟩ | ⟨g, cap, cur, rfl, hb, hg, _⟩
  · simp [Value.ownBlock] at hk
  · simp only [Value.ownBlock, Option.some.injEq] at hk
    subst hk
    exact ⟨cur, hg, hb⟩

theorem own_ne_blk (h : w.ownsRow base e size v n xs) {g' : Nat} {e' : TypeId} {cur' : Array Value} (hb : Blk w g' e' cur') (hne : e ≠ e') : some g' ≠ v.ownBlock := by
  intro he
  obtain ⟨c, hc, _⟩ := own_blk h he.symm
  exact (hc.ne hb hne) rfl

theorem own_ne_low (h : w.ownsRow base e size v n xs) {g' : Nat} (hlt : g' < base) : some g' ≠ v.ownBlock := by
  intro he
  obtain ⟨c, hc, hb⟩ := own_blk h he.symm
  omega

/-- two owned rows of different element types lie in different blocks -/
theorem own_ne_own (h : w.ownsRow base e size v n xs) {base' : Nat} {e' : TypeId} {size' n' : Nat} {v' : Value} {xs' : List Value} (h' : w.ownsRow base' e' size' v' n' xs') (hne : e ≠ e') :
    v.ownBlock = none ∨ v.ownBlock ≠ v'.ownBlock := by
  cases hv : v.ownBlock with
  | none => exact .inl rfl
  | some k =>
    right
    intro he
    obtain ⟨c, hc, _⟩ := own_blk h hv
    obtain ⟨c', hc', _⟩ := own_blk h' he.symm
    exact (hc.ne hc' hne) rfl

/-- an owned row's value, written out -/
theorem own_shape (h : w.ownsRow base e size v n xs) : ∃ ao cap, v = .slice ao n cap ∧ n ≤ cap ∧ (0 < n → ∃ g, ao = some ⟨g, 0, none⟩ ∧ base ≤ g) := by
  rcases h.2 with ⟨rfl, rfl⟩ | ⟨g, cap, cur, rfl, hb, hg, hn, _⟩
  · exact ⟨none, 0, rfl, Nat.le_refl _, fun h => absurd h (Nat.lt_irrefl _)⟩
  · exact ⟨_, cap, rfl, hn, fun _ => ⟨g, rfl, hb⟩⟩

theorem own_shape_pos (h : w.ownsRow base e size v n xs) (hn : 0 < n) : ∃ g cap, v = .slice (some ⟨g, 0, none⟩) n cap ∧ base ≤ g ∧ n ≤ cap := by
  obtain ⟨ao, cap, rfl, hc, hp⟩ := own_shape h
  obtain ⟨g, rfl, hb⟩ := hp hn
  exact ⟨g, cap, rfl, hb, hc⟩

/-- what is owned stays owned behind a store elsewhere -/
theorem own_setOther (h : w.ownsRow base e size v n xs) {a : Addr} (ha : some a.block ≠ v.ownBlock) (u : Value) : (w.setCell a u).ownsRow base e size v n xs := by
  refine h.kept (row := some a.block) ⟨rfl, rfl, rfl, by simp [World.setCell], fun k _ hk => Below.heap_setCell _ _ _ _ (fun e => hk (by rw [e]))⟩ ?_
  exact .inr (fun e => ha e.symm)

end
end Go.Proofs.Ybulkri
