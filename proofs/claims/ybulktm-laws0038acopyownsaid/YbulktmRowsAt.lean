/-
  Slices, as the walks want them (over any program).
-/
import Derived.WalkKit
import Derived.Maps.AppendAt
import Derived.Deep.Draws
namespace Go.Proofs.Ybulktm
open Go.RowKit

/-- The slice '.slice ao n cap' reads as the cells xs; it lies in a block below B. -/
structure SlAt (w : World) (B : Nat) (ao : Option Addr) (n cap : Nat) (xs : List Value) : Prop where
  tl : xs.length = n
  nil : ao = none → n = 0 ∧ cap = 0
  cells : 0 < n → ∃ b off, ao = some ⟨b, off, none⟩ ∧ b < B ∧ ∀ j, j < n → w.cell? ⟨b, off + j, none⟩ = xs[j]?

theorem SlAt.later {w W : World} {B : Nat} {ao : Option Addr} {n cap : Nat} {xs : List Value} (h : SlAt w B ao n cap xs) (hb : Below B w W) : SlAt W B ao n cap xs :=
  ⟨h.tl, h.nil, fun hp => by
    obtain ⟨b, off, e, hlt, hc⟩ := h.cells hp
    exact ⟨b, off, e, hlt, fun j hj => (hb.cell (p := ⟨b, off + j, none⟩) hlt).trans (hc j hj)⟩⟩

theorem SlAt.more {w : World} {B B' : Nat} {ao : Option Addr} {n cap : Nat} {xs : List Value} (h : SlAt w B ao n cap xs) (hB : B ≤ B') : SlAt w B' ao n cap xs :=
  ⟨h.tl, h.nil, fun hp => by
    obtain ⟨b, off, e, hlt, hc⟩ := h.cells hp
    exact ⟨b, off, e, by omega, hc⟩⟩

theorem SlAt.empty (w : World) (B : Nat) : SlAt w B none 0 0 [] := ⟨rfl, fun _ => ⟨rfl, rfl⟩, fun h => absurd h (Nat.lt_irrefl _)⟩

/-- A slice of slices. Behind its end: the nil slice. -/
structure Outer (w : World) (B : Nat) (ao : Option Addr) (n cap : Nat) (A : Nat → Option Addr) (N C : Nat → Nat) (X : Nat → List Value) : Prop where
  nil : ao = none → n = 0 ∧ cap = 0
  cells : 0 < n → ∃ b off, ao = some ⟨b, off, none⟩ ∧ b < B ∧ ∀ i, i < n → w.cell? ⟨b, off + i, none⟩ = some (.slice (A i) (N i) (C i))
  rows : ∀ i, SlAt w B (A i) (N i) (C i) (X i)
  beyond : ∀ i, ¬ i < n → A i = none ∧ N i = 0 ∧ C i = 0

theorem Outer.later {w W : World} {B : Nat} {ao : Option Addr} {n cap : Nat} {A : Nat → Option Addr} {N C : Nat → Nat} {X : Nat → List Value} (h : Outer w B ao n cap A N C X) (hb : Below B w W) : Outer W B ao n cap A N C X :=
  ⟨h.nil, fun hp => by
    obtain ⟨b, off, e, hlt, hc⟩ := h.cells hp
    exact ⟨b, off, e, hlt, fun j hj => (hb.cell (p := ⟨b, off + j, none⟩) hlt).trans (hc j hj)⟩, fun i => (h.rows i).later hb, h.beyond⟩

/-- Block g is a row of cells of element type e, none of it frozen. -/
def Blk (w : World) (g : Nat) (e : TypeId) (cur : Array Value) : Prop := w.heap[g]? = some (.cells cur e (0, 0))

section
variable {w : World} {g : Nat} {e : TypeId} {cur : Array Value}

theorem Blk.cell (h : Blk w g e cur) (j : Nat) : w.cell? ⟨g, j, none⟩ = cur[j]? := cell_of_row w g j cur e (0, 0) h
theorem Blk.cellOf (h : Blk w g e cur) {j : Nat} {v : Value} (hj : cur[j]? = some v) : w.cell? ⟨g, j, none⟩ = some v := (h.cell j).trans hj
theorem Blk.frozen (h : Blk w g e cur) (j : Nat) : w.frozen? ⟨g, j, none⟩ = false := frozen_of_row w g j cur e h
theorem Blk.lt (h : Blk w g e cur) : g < w.heap.size := (Array.getElem?_eq_some_iff.1 h).1
theorem Blk.alloc (h : Blk w g e cur) (o : Obj) : Blk (w.alloc o) g e cur := by
  unfold Blk; rw [Below.heap_alloc _ _ _ h.lt]; exact h
theorem Blk.new (w : World) (e : TypeId) (cur : Array Value) : Blk (w.alloc (.cells cur e)) w.heap.size e cur := heap_alloc_new w _
theorem Blk.set (h : Blk w g e cur) (j : Nat) (u : Value) : Blk (w.setCell ⟨g, j, none⟩ u) g e (cur.setIfInBounds j u) := heap_setCell_same w g j cur e u h
theorem Blk.setOther (h : Blk w g e cur) {a : Addr} (ha : g ≠ a.block) (u : Value) : Blk (w.setCell a u) g e cur := by
  unfold Blk; rw [Below.heap_setCell _ _ _ _ ha]; exact h
theorem Blk.grown {w' : World} {row : Option Nat} (h : Blk w g e cur) (hg : w.grownBy w' row) (hne : some g ≠ row) : Blk w' g e cur := by
  unfold Blk; rw [hg.block g h.lt hne]; exact h
theorem Blk.below {w' : World} {B : Nat} (h : Blk w g e cur) (hb : Below B w w') (hlt : g < B) : Blk w' g e cur := by
  unfold Blk; rw [hb.block g hlt]; exact h
theorem Blk.drewN (h : Blk w g e cur) (q : Nat) : Blk (w.drewN q) g e cur := by
  induction q with
  | zero => exact h
  | succ q ih => exact ih
theorem Blk.ne {g' : Nat} {e' : TypeId} {cur' : Array Value} (h : Blk w g e cur) (h' : Blk w g' e' cur') (hne : e ≠ e') : g ≠ g' := by
  rintro rfl
  rw [Blk, h] at h'
  simp only [Option.some.injEq, Obj.cells.injEq] at h'
  exact hne h'.2.1
end

theorem below_drewN {B : Nat} {w W : World} (h : Below B w W) (q : Nat) : Below B w (W.drewN q) := by
  induction q with
  | zero => exact h
  | succ q ih => exact ih.drew

/-- an owned row is read as a slice -/
theorem own_sl {w : World} {base : Nat} {e : TypeId} {v : Value} {n : Nat} {xs : List Value} (h : w.ownsRow base e 1 v n xs) : ∃ ao cap, v = .slice ao n cap ∧ SlAt w w.heap.size ao n cap xs ∧ (0 < n → ∃ g cur, ao = some ⟨g, 0, none⟩ ∧ base ≤ g ∧ Blk w g e cur ∧ n ≤ cur.size ∧ ∀ j, j < n → cur[j]? = xs[j]?) := by
  have hl : xs.length = n := by simpa using h.1
  rcases h.2 with ⟨rfl, rfl⟩ | ⟨g, cap, cur, rfl, hb, hg, hn, hm, hs, ht⟩
  · obtain rfl : xs = [] := List.eq_nil_of_length_eq_zero hl
    exact ⟨none, 0, rfl, SlAt.empty _ _, fun h => absurd h (Nat.lt_irrefl _)⟩
  · have hcell : ∀ j, j < n → cur[j]? = xs[j]? := by
      intro j hj
      rw [← ht, List.getElem?_take_of_lt (by omega), Array.getElem?_toList]
    refine ⟨_, cap, rfl, ⟨hl, fun e => (by cases e), fun hp => ⟨g, 0, rfl, (Array.getElem?_eq_some_iff.1 hg).1, fun j hj => ?_⟩⟩, fun _ => ⟨g, cur, rfl, hb, hg, by omega, hcell⟩⟩
    rw [Nat.zero_add, cell_of_row w g j cur e (0, 0) hg, hcell j hj]

end Go.Proofs.Ybulktm
