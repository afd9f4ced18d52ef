/-
  The columns of a rowStore in memory.
-/
import Derived.Test.YbulktmApp
import Derived.Laws.MakeOwn
namespace Go.Proofs.Ybulktm
open Go.RowKit

/-- A slice of the call's own: a row at its block's head, from block N on. -/
structure OwnSl (w : World) (N : Nat) (e : TypeId) (ao : Option Addr) (n cap : Nat) (xs : List Value) : Prop where
  tl : xs.length = n
  nil : ao = none → n = 0 ∧ cap = 0
  own : 0 < n → ∃ g cur, ao = some ⟨g, 0, none⟩ ∧ N ≤ g ∧ Blk w g e cur ∧ n ≤ cur.size ∧ ∀ j, j < n → cur[j]? = xs[j]?

section
variable {w w' : World} {N : Nat} {e : TypeId} {ao : Option Addr} {n cap : Nat} {xs : List Value}

theorem OwnSl.mk' (h : w.ownsRow N e 1 (.slice ao n cap) n xs) : OwnSl w N e ao n cap xs := by
  obtain ⟨a', c', e', hs, ho⟩ := own_sl h
  simp only [Value.slice.injEq] at e'
  obtain ⟨rfl, _, rfl⟩ := e'
  exact ⟨hs.tl, hs.nil, ho⟩

theorem OwnSl.sl (h : OwnSl w N e ao n cap xs) : SlAt w w.heap.size ao n cap xs :=
  ⟨h.tl, h.nil, fun hp => by
    obtain ⟨g, cur, e', hN, hb, hs, hc⟩ := h.own hp
    exact ⟨g, 0, e', hb.lt, fun j hj => by rw [Nat.zero_add, hb.cell j, hc j hj]⟩⟩

theorem OwnSl.alloc (h : OwnSl w N e ao n cap xs) (o : Obj) : OwnSl (w.alloc o) N e ao n cap xs :=
  ⟨h.tl, h.nil, fun hp => by
    obtain ⟨g, cur, e', hN, hb, r⟩ := h.own hp
    exact ⟨g, cur, e', hN, hb.alloc o, r⟩⟩

theorem OwnSl.grown (h : OwnSl w N e ao n cap xs) (hg : w.grownBy w' none) : OwnSl w' N e ao n cap xs :=
  ⟨h.tl, h.nil, fun hp => by
    obtain ⟨g, cur, e', hN, hb, r⟩ := h.own hp
    exact ⟨g, cur, e', hN, hb.grown hg (by simp), r⟩⟩

theorem OwnSl.below (h : OwnSl w N e ao n cap xs) (hb : Below w.heap.size w w') : OwnSl w' N e ao n cap xs :=
  ⟨h.tl, h.nil, fun hp => by
    obtain ⟨g, cur, e', hN, hbk, r⟩ := h.own hp
    exact ⟨g, cur, e', hN, hbk.below hb hbk.lt, r⟩⟩

theorem OwnSl.drewN (h : OwnSl w N e ao n cap xs) (q : Nat) : OwnSl (w.drewN q) N e ao n cap xs :=
  ⟨h.tl, h.nil, fun hp => by
    obtain ⟨g, cur, e', hN, hb, r⟩ := h.own hp
    exact ⟨g, cur, e', hN, hb.drewN q, r⟩⟩

/-- a store into a block of another element type -/
theorem OwnSl.set (h : OwnSl w N e ao n cap xs) {g' : Nat} {e' : TypeId} {cur' : Array Value} (hb' : Blk w g' e' cur') (hne : e ≠ e') (j : Nat) (u : Value) : OwnSl (w.setCell ⟨g', j, none⟩ u) N e ao n cap xs :=
  ⟨h.tl, h.nil, fun hp => by
    obtain ⟨g, cur, e'', hN, hb, r⟩ := h.own hp
    exact ⟨g, cur, e'', hN, hb.setOther (hb.ne hb' hne) u, r⟩⟩

theorem OwnSl.mono {N' : Nat} (h : OwnSl w N e ao n cap xs) (hN : N' ≤ N) : OwnSl w N' e ao n cap xs :=
  ⟨h.tl, h.nil, fun hp => by
    obtain ⟨g, cur, e', hN', hb, r⟩ := h.own hp
    exact ⟨g, cur, e', by omega, hb, r⟩⟩
end

/-- where a column's three slices lie -/
structure Col where
  ta : Option Addr
  tc : Nat
  na : Option Addr
  nc : Nat
  sa : Option Addr
  sc : Nat

/-- what a column holds -/
structure Dat where
  text : Bool
  tz : List Int
  nz : List Int
  sz : List ByteArray

def Col.tv (c : Col) (d : Dat) : Value := .slice c.ta d.tz.length c.tc
def Col.nv (c : Col) (d : Dat) : Value := .slice c.na d.nz.length c.nc
def Col.sv (c : Col) (d : Dat) : Value := .slice c.sa d.sz.length c.sc

/-- the four cells of column k -/
def ColCells (cur : Array Value) (k : Nat) (c : Col) (d : Dat) : Prop :=
  cur[k * 4]? = some (.bool d.text) ∧ cur[k * 4 + 1]? = some (.slice c.ta d.tz.length c.tc) ∧ cur[k * 4 + 2]? = some (.slice c.na d.nz.length c.nc) ∧ cur[k * 4 + 3]? = some (.slice c.sa d.sz.length c.sc)

/-- a column's slices are the call's own, from block N on -/
def ColOwn (w : World) (N : Nat) (c : Col) (d : Dat) : Prop :=
  OwnSl w N 5 c.ta d.tz.length c.tc (d.tz.map (Value.int .u8)) ∧ OwnSl w N 47 c.na d.nz.length c.nc (d.nz.map (Value.int .u64)) ∧ OwnSl w N 9 c.sa d.sz.length c.sc (d.sz.map Value.string)

section
variable {w w' : World} {N : Nat} {c : Col} {d : Dat}
theorem ColOwn.alloc (h : ColOwn w N c d) (o : Obj) : ColOwn (w.alloc o) N c d := ⟨h.1.alloc o, h.2.1.alloc o, h.2.2.alloc o⟩
theorem ColOwn.grown (h : ColOwn w N c d) (hg : w.grownBy w' none) : ColOwn w' N c d := ⟨h.1.grown hg, h.2.1.grown hg, h.2.2.grown hg⟩
theorem ColOwn.below (h : ColOwn w N c d) (hb : Below w.heap.size w w') : ColOwn w' N c d := ⟨h.1.below hb, h.2.1.below hb, h.2.2.below hb⟩
theorem ColOwn.drewN (h : ColOwn w N c d) (q : Nat) : ColOwn (w.drewN q) N c d := ⟨h.1.drewN q, h.2.1.drewN q, h.2.2.drewN q⟩
theorem ColOwn.mono {N' : Nat} (h : ColOwn w N c d) (hN : N' ≤ N) : ColOwn w N' c d := ⟨h.1.mono hN, h.2.1.mono hN, h.2.2.mono hN⟩
theorem ColOwn.set (h : ColOwn w N c d) {g' : Nat} {e' : TypeId} {cur' : Array Value} (hb' : Blk w g' e' cur') (h5 : 5 ≠ e') (h47 : 47 ≠ e') (h9 : 9 ≠ e') (j : Nat) (u : Value) : ColOwn (w.setCell ⟨g', j, none⟩ u) N c d :=
  ⟨h.1.set hb' h5 j u, h.2.1.set hb' h47 j u, h.2.2.set hb' h9 j u⟩
end

/-- columns 0 .. k-1 of the array at block g -/
structure ColsAt (w : World) (N g L k : Nat) (F : Nat → Col) (D : Nat → Dat) : Prop where
  blk : ∃ cur, Blk w g 34 cur ∧ cur.size = L * 4 ∧ ∀ j, j < k → ColCells cur j (F j) (D j)
  own : ∀ j, j < k → ColOwn w N (F j) (D j)

section
variable {w w' : World} {N g L k : Nat} {F : Nat → Col} {D : Nat → Dat}

theorem ColsAt.alloc (h : ColsAt w N g L k F D) (o : Obj) : ColsAt (w.alloc o) N g L k F D :=
  ⟨by obtain ⟨cur, hb, r⟩ := h.blk; exact ⟨cur, hb.alloc o, r⟩, fun j hj => (h.own j hj).alloc o⟩
theorem ColsAt.grown (h : ColsAt w N g L k F D) (hg : w.grownBy w' none) : ColsAt w' N g L k F D :=
  ⟨by obtain ⟨cur, hb, r⟩ := h.blk; exact ⟨cur, hb.grown hg (by simp), r⟩, fun j hj => (h.own j hj).grown hg⟩
theorem ColsAt.below (h : ColsAt w N g L k F D) (hb' : Below w.heap.size w w') : ColsAt w' N g L k F D :=
  ⟨by obtain ⟨cur, hb, r⟩ := h.blk; exact ⟨cur, hb.below hb' hb.lt, r⟩, fun j hj => (h.own j hj).below hb'⟩
theorem ColsAt.drewN (h : ColsAt w N g L k F D) (q : Nat) : ColsAt (w.drewN q) N g L k F D :=
  ⟨by obtain ⟨cur, hb, r⟩ := h.blk; exact ⟨cur, hb.drewN q, r⟩, fun j hj => (h.own j hj).drewN q⟩
theorem ColsAt.mono {N' : Nat} (h : ColsAt w N g L k F D) (hN : N' ≤ N) : ColsAt w N' g L k F D := ⟨h.blk, fun j hj => (h.own j hj).mono hN⟩
theorem ColsAt.lt (h : ColsAt w N g L k F D) : g < w.heap.size := by obtain ⟨cur, hb, _⟩ := h.blk; exact hb.lt
/-- a store into a block of another type -/
theorem ColsAt.set (h : ColsAt w N g L k F D) {g' : Nat} {e' : TypeId} {cur' : Array Value} (hb' : Blk w g' e' cur') (h34 : 34 ≠ e') (h5 : 5 ≠ e') (h47 : 47 ≠ e') (h9 : 9 ≠ e') (j : Nat) (u : Value) : ColsAt (w.setCell ⟨g', j, none⟩ u) N g L k F D :=
  ⟨by obtain ⟨cur, hb, r⟩ := h.blk; exact ⟨cur, hb.setOther (hb.ne hb' h34) u, r⟩, fun i hi => (h.own i hi).set hb' h5 h47 h9 j u⟩

theorem ColsAt.cells (h : ColsAt w N g L k F D) {j : Nat} (hj : j < k) : w.cell? ⟨g, j * 4, none⟩ = some (.bool (D j).text) ∧ w.cell? ⟨g, j * 4 + 1, none⟩ = some (.slice (F j).ta (D j).tz.length (F j).tc) ∧
    w.cell? ⟨g, j * 4 + 2, none⟩ = some (.slice (F j).na (D j).nz.length (F j).nc) ∧ w.cell? ⟨g, j * 4 + 3, none⟩ = some (.slice (F j).sa (D j).sz.length (F j).sc) := by
  obtain ⟨cur, hb, _, hc⟩ := h.blk
  obtain ⟨h0, h1, h2, h3⟩ := hc j hj
  exact ⟨hb.cellOf h0, hb.cellOf h1, hb.cellOf h2, hb.cellOf h3⟩

/-- the target cells of column k -/
theorem ColsAt.target (h : ColsAt w N g L k F D) (hk : k < L) : (∃ v, w.cell? ⟨g, k * 4, none⟩ = some v) ∧ (∃ v, w.cell? ⟨g, k * 4 + 1, none⟩ = some v) ∧ (∃ v, w.cell? ⟨g, k * 4 + 2, none⟩ = some v) ∧ (∃ v, w.cell? ⟨g, k * 4 + 3, none⟩ = some v) ∧ ∀ j, w.frozen? ⟨g, j, none⟩ = false := by
  obtain ⟨cur, hb, hs, _⟩ := h.blk
  have hlt : ∀ j, j < L * 4 → ∃ v, w.cell? ⟨g, j, none⟩ = some v := fun j hj => ⟨cur[j], by rw [hb.cell j, Array.getElem?_eq_getElem (by omega)]⟩
  exact ⟨hlt _ (by omega), hlt _ (by omega), hlt _ (by omega), hlt _ (by omega), fun j => hb.frozen j⟩

/-- column k is stored -/
theorem ColsAt.store (h : ColsAt w N g L k F D) (hk : k < L) {c : Col} (hc : ColOwn w N c (D k)) :
    ColsAt ((((w.setCell ⟨g, k * 4, none⟩ (.bool (D k).text)).setCell ⟨g, k * 4 + 1, none⟩ (.slice c.ta (D k).tz.length c.tc)).setCell ⟨g, k * 4 + 2, none⟩ (.slice c.na (D k).nz.length c.nc)).setCell ⟨g, k * 4 + 3, none⟩ (.slice c.sa (D k).sz.length c.sc))
      N g L (k + 1) (fun j => if j = k then c else F j) D := by
  obtain ⟨cur, hb, hs, hcc⟩ := h.blk
  have b1 := hb.set (k * 4) (.bool (D k).text)
  have b2 := b1.set (k * 4 + 1) (.slice c.ta (D k).tz.length c.tc)
  have b3 := b2.set (k * 4 + 2) (.slice c.na (D k).nz.length c.nc)
  have b4 := b3.set (k * 4 + 3) (.slice c.sa (D k).sz.length c.sc)
  refine ⟨⟨_, b4, by simp [hs], fun j hj => ?_⟩, fun j hj => ?_⟩
  · by_cases e : j = k
    · subst e
      simp only [if_true]
      unfold ColCells
      simp [hs, show j * 4 < L * 4 by omega, show j * 4 + 1 < L * 4 by omega, show j * 4 + 2 < L * 4 by omega, show j * 4 + 3 < L * 4 by omega]
    · simp only [if_neg e]
      have := hcc j (by omega)
      unfold ColCells at this ⊢
      obtain ⟨h0, h1, h2, h3⟩ := this
      have hlt : j < k := by omega
      refine ⟨?_, ?_, ?_, ?_⟩
      · rw [Array.getElem?_setIfInBounds_ne (by omega), Array.getElem?_setIfInBounds_ne (by omega), Array.getElem?_setIfInBounds_ne (by omega), Array.getElem?_setIfInBounds_ne (by omega)]; exact h0
      · rw [Array.getElem?_setIfInBounds_ne (by omega), Array.getElem?_setIfInBounds_ne (by omega), Array.getElem?_setIfInBounds_ne (by omega), Array.getElem?_setIfInBounds_ne (by omega)]; exact h1
      · rw [Array.getElem?_setIfInBounds_ne (by omega), Array.getElem?_setIfInBounds_ne (by omega), Array.getElem?_setIfInBounds_ne (by omega), Array.getElem?_setIfInBounds_ne (by omega)]; exact h2
      · rw [Array.getElem?_setIfInBounds_ne (by omega), Array.getElem?_setIfInBounds_ne (by omega), Array.getElem?_setIfInBounds_ne (by omega), Array.getElem?_setIfInBounds_ne (by omega)]; exact h3
  · have put : ∀ {c' : Col} {d' : Dat}, ColOwn w N c' d' → ColOwn ((((w.setCell ⟨g, k * 4, none⟩ (.bool (D k).text)).setCell ⟨g, k * 4 + 1, none⟩ (.slice c.ta (D k).tz.length c.tc)).setCell ⟨g, k * 4 + 2, none⟩ (.slice c.na (D k).nz.length c.nc)).setCell ⟨g, k * 4 + 3, none⟩ (.slice c.sa (D k).sz.length c.sc)) N c' d' := by
      intro c' d' h'
      exact (((h'.set hb (by decide) (by decide) (by decide) _ _).set b1 (by decide) (by decide) (by decide) _ _).set b2 (by decide) (by decide) (by decide) _ _).set b3 (by decide) (by decide) (by decide) _ _
    by_cases e : j = k
    · subst e
      simp only [if_true]
      exact put hc
    · simp only [if_neg e]
      exact put (h.own j (by omega))
end

/-- 'make([]storedColumn, L)' -/
theorem make_cols (L : Nat) (hL : L ≤ 1024) : ∃ Z : Array Value, Z.size = L * 4 ∧ ∀ w : World, (Instr.makeSlice 31 (.int .i64 (L : Int)) (.int .i64 (L : Int))).run Yba.prog w = .ok (.slice (some ⟨w.heap.size, 0, none⟩) L L) (w.alloc (.cells Z 34)) := by
  obtain ⟨i, hi, h0, h1, h2⟩ := info_parts info34
  refine ⟨madeCells (Value.agg #[.bool false, .slice none 0 0, .slice none 0 0, .slice none 0 0]).cells (L * 4), by simp [madeCells], fun w => ?_⟩
  have := run_make (P := Yba.prog) w 31 34 i _ Yba.underlying31 hi h0 .i64 .i64 (L : Int) (L : Int) (by omega) (by omega) (by rw [h2]; omega) (by omega)
  rw [this, h1]
  rfl

end Go.Proofs.Ybulktm
