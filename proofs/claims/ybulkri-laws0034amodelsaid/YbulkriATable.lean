/-
  LawS0034AModel: the table that spans builds, in memory.
-/
import Derived.Test.YbulkriASpanOf
import Derived.Test.YbulkriAppend
import Derived.Deep.DeepAppendRoom
namespace Go.Proofs.Ybulkri.A
open Go.RowKit
set_option linter.unusedVariables false
set_option linter.unusedSimpArgs false

/-- where the table's blocks lie -/
structure SpC (H2 T g0 g1 g3 gso : Nat) : Prop where
  ht : H2 ≤ T ∧ T < gso
  h0 : H2 ≤ g0 ∧ g0 < gso
  h1 : H2 ≤ g1 ∧ g1 < gso
  h3 : H2 ≤ g3 ∧ g3 < gso
  hne : g1 ≠ g3

/-- the table in the making -/
structure SpSt (W2 : World) (H2 T g0 g1 g3 gso nX M : Nat) (vw : Value) (L : List (Nat × Nat)) (zs l1 l3 so : List Int) (m : Nat) (W : World) : Prop where
  t : Blk W T 56 #[.slice (some ⟨g0, 0, none⟩) L.length M, .slice (some ⟨g1, 0, none⟩) (nX + 1) (nX + 1), vw, .slice (some ⟨g3, 0, none⟩) (nX + 1) (nX + 1), .slice none 0 0, .slice none 0 0]
  st : IRow W g1 l1
  ws : IRow W g3 l3
  so : IRow W gso so
  sp : W.ownsRow H2 63 6 (.slice (some ⟨g0, 0, none⟩) L.length M) L.length (zs.map (Value.int .i64))
  wr : ∃ xs, W.ownsRow (gso + 1) 3 1 vw m xs
  b : Below H2 W2 W

section
variable {W2 W : World} {H2 T g0 g1 g3 gso nX M : Nat} {vw : Value} {L : List (Nat × Nat)} {zs l1 l3 so : List Int} {m : Nat}

theorem SpSt.size (h : SpSt W2 H2 T g0 g1 g3 gso nX M vw L zs l1 l3 so m W) : gso < W.heap.size := h.so.blk.lt
theorem SpSt.alloc (c : SpC H2 T g0 g1 g3 gso) (h : SpSt W2 H2 T g0 g1 g3 gso nX M vw L zs l1 l3 so m W) (o : Obj) : SpSt W2 H2 T g0 g1 g3 gso nX M vw L zs l1 l3 so m (W.alloc o) :=
  ⟨h.t.alloc o, Blk.alloc h.st o, Blk.alloc h.ws o, Blk.alloc h.so o, h.sp.alloc o, by obtain ⟨xs, hx⟩ := h.wr; exact ⟨xs, hx.alloc o⟩, h.b.alloc (by have := h.size; have := c.ht; omega) o⟩
theorem SpSt.drew (h : SpSt W2 H2 T g0 g1 g3 gso nX M vw L zs l1 l3 so m W) : SpSt W2 H2 T g0 g1 g3 gso nX M vw L zs l1 l3 so m W.drew :=
  ⟨h.t.drew, Blk.drew h.st, Blk.drew h.ws, Blk.drew h.so, h.sp, h.wr, h.b.drew⟩
theorem ownsRow_below {w w' : World} {base : Nat} {e : TypeId} {size : Nat} {v : Value} {n : Nat} {xs : List Value} (h : w.ownsRow base e size v n xs) (hb : Below w.heap.size w w') : w'.ownsRow base e size v n xs :=
  h.kept (row := none) ⟨hb.os, hb.tape, hb.output, hb.size, fun k hk _ => hb.block k hk⟩ (by cases hv : v.ownBlock <;> simp)
theorem SpSt.below {W' : World} (c : SpC H2 T g0 g1 g3 gso) (h : SpSt W2 H2 T g0 g1 g3 gso nX M vw L zs l1 l3 so m W) (hb : Below W.heap.size W W') : SpSt W2 H2 T g0 g1 g3 gso nX M vw L zs l1 l3 so m W' :=
  ⟨h.t.below hb h.t.lt, Blk.below h.st hb h.st.blk.lt, Blk.below h.ws hb h.ws.blk.lt, Blk.below h.so hb h.so.blk.lt, ownsRow_below h.sp hb, by obtain ⟨xs, hx⟩ := h.wr; exact ⟨xs, ownsRow_below hx hb⟩, h.b.trans (hb.mono (by have := h.size; have := c.ht; omega))⟩

theorem wr_ne {w : World} {base m g : Nat} {vw : Value} {xs : List Value} (h : w.ownsRow base 3 1 vw m xs) (hg : g < base) : some g ≠ vw.ownBlock := own_ne_low h hg

theorem SpSt.setSt (c : SpC H2 T g0 g1 g3 gso) (h : SpSt W2 H2 T g0 g1 g3 gso nX M vw L zs l1 l3 so m W) (j : Nat) (v : Int) : SpSt W2 H2 T g0 g1 g3 gso nX M vw L zs (l1.set j v) l3 so m (W.setCell ⟨g1, j, none⟩ (.int .i64 v)) :=
  ⟨h.t.setOther (a := ⟨g1, j, none⟩) (h.t.ne h.st.blk (by decide)) _, h.st.set j v, Blk.setOther (a := ⟨g1, j, none⟩) h.ws (Ne.symm c.hne) _, Blk.setOther (a := ⟨g1, j, none⟩) h.so (by have := c.h1; show gso ≠ g1; omega) _,
   own_setOther h.sp (a := ⟨g1, j, none⟩) (own_ne_blk h.sp h.st.blk (by decide)) _, by obtain ⟨xs, hx⟩ := h.wr; exact ⟨xs, own_setOther hx (a := ⟨g1, j, none⟩) (wr_ne (g := g1) hx (by have := c.h1; omega)) _⟩, h.b.setCell (p := ⟨g1, j, none⟩) c.h1.1 _⟩
theorem SpSt.setWs (c : SpC H2 T g0 g1 g3 gso) (h : SpSt W2 H2 T g0 g1 g3 gso nX M vw L zs l1 l3 so m W) (j : Nat) (v : Int) : SpSt W2 H2 T g0 g1 g3 gso nX M vw L zs l1 (l3.set j v) so m (W.setCell ⟨g3, j, none⟩ (.int .i64 v)) :=
  ⟨h.t.setOther (a := ⟨g3, j, none⟩) (h.t.ne h.ws.blk (by decide)) _, Blk.setOther (a := ⟨g3, j, none⟩) h.st c.hne _, h.ws.set j v, Blk.setOther (a := ⟨g3, j, none⟩) h.so (by have := c.h3; show gso ≠ g3; omega) _,
   own_setOther h.sp (a := ⟨g3, j, none⟩) (own_ne_blk h.sp h.ws.blk (by decide)) _, by obtain ⟨xs, hx⟩ := h.wr; exact ⟨xs, own_setOther hx (a := ⟨g3, j, none⟩) (wr_ne (g := g3) hx (by have := c.h3; omega)) _⟩, h.b.setCell (p := ⟨g3, j, none⟩) c.h3.1 _⟩
theorem SpSt.setSo (c : SpC H2 T g0 g1 g3 gso) (h : SpSt W2 H2 T g0 g1 g3 gso nX M vw L zs l1 l3 so m W) (j : Nat) (v : Int) : SpSt W2 H2 T g0 g1 g3 gso nX M vw L zs l1 l3 (so.set j v) m (W.setCell ⟨gso, j, none⟩ (.int .i64 v)) :=
  ⟨h.t.setOther (a := ⟨gso, j, none⟩) (h.t.ne h.so.blk (by decide)) _, Blk.setOther (a := ⟨gso, j, none⟩) h.st (by have := c.h1; show g1 ≠ gso; omega) _, Blk.setOther (a := ⟨gso, j, none⟩) h.ws (by have := c.h3; show g3 ≠ gso; omega) _, h.so.set j v,
   own_setOther h.sp (a := ⟨gso, j, none⟩) (own_ne_blk h.sp h.so.blk (by decide)) _, by obtain ⟨xs, hx⟩ := h.wr; exact ⟨xs, own_setOther hx (a := ⟨gso, j, none⟩) (wr_ne hx (Nat.lt_succ_self _)) _⟩, h.b.setCell (p := ⟨gso, j, none⟩) (by have := c.ht; show H2 ≤ gso; omega) _⟩
theorem SpSt.setSp (c : SpC H2 T g0 g1 g3 gso) (h : SpSt W2 H2 T g0 g1 g3 gso nX M vw L zs l1 l3 so m W) (j : Nat) (v : Int) : SpSt W2 H2 T g0 g1 g3 gso nX M vw L (zs.set j v) l1 l3 so m (W.setCell ⟨g0, j, none⟩ (.int .i64 v)) := by
  obtain ⟨cur, hg0, _⟩ := own_blk h.sp (k := g0) rfl
  refine ⟨h.t.setOther (a := ⟨g0, j, none⟩) (h.t.ne hg0 (by decide)) _, Blk.setOther (a := ⟨g0, j, none⟩) h.st (h.st.blk.ne hg0 (by decide)) _, Blk.setOther (a := ⟨g0, j, none⟩) h.ws (h.ws.blk.ne hg0 (by decide)) _, Blk.setOther (a := ⟨g0, j, none⟩) h.so (h.so.blk.ne hg0 (by decide)) _, ?_, by obtain ⟨xs, hx⟩ := h.wr; exact ⟨xs, own_setOther hx (a := ⟨g0, j, none⟩) (own_ne_blk hx hg0 (by decide)) _⟩, h.b.setCell (p := ⟨g0, j, none⟩) c.h0.1 _⟩
  have := (h.sp.stored j (.int .i64 v)).1
  rwa [← List.map_set] at this

/-- 'tab.spans = append(tab.spans, span{..})' -/
theorem SpSt.appSp {W' : World} {o : Obj} (c : SpC H2 T g0 g1 g3 gso) (h : SpSt W2 H2 T g0 g1 g3 gso nX M vw L zs l1 l3 so m W) {t x : Nat} {i n : Int} (hn : W'.ownsRow H2 63 6 (.slice (some ⟨g0, 0, none⟩) (L.length + 1) M) (L.length + 1) (zs.map (Value.int .i64) ++ [.int .i64 t, .int .i64 x, .int .i64 i, .int .i64 0, .int .i64 n, .int .i64 (-1)])) (hg : (W.alloc o).grownBy W' (some g0)) :
    Blk W' T 56 #[.slice (some ⟨g0, 0, none⟩) L.length M, .slice (some ⟨g1, 0, none⟩) (nX + 1) (nX + 1), vw, .slice (some ⟨g3, 0, none⟩) (nX + 1) (nX + 1), .slice none 0 0, .slice none 0 0] ∧
    SpSt W2 H2 T g0 g1 g3 gso nX M vw (L ++ [(t, x)]) (zs ++ [(t : Int), (x : Int), i, 0, n, -1]) l1 l3 so m (W'.setCell ⟨T, 0, none⟩ (.slice (some ⟨g0, 0, none⟩) (L.length + 1) M)) ∧ Below H2 W2 W' := by
  have h' := h.alloc c o
  obtain ⟨cur, hg0, _⟩ := own_blk h'.sp (k := g0) rfl
  have hT := h'.t.grown hg (by simpa using (h'.t.ne hg0 (by decide)))
  have hst := Blk.grown h'.st hg (by simpa using (h'.st.blk.ne hg0 (by decide)))
  have hws := Blk.grown h'.ws hg (by simpa using (h'.ws.blk.ne hg0 (by decide)))
  have hso := Blk.grown h'.so hg (by simpa using (h'.so.blk.ne hg0 (by decide)))
  obtain ⟨xs, hx⟩ := h'.wr
  have hx' := hx.kept hg (own_ne_own hx h'.sp (by decide))
  have hbW' : Below H2 W2 W' := h'.b.grown hg (by have := h'.size; have := c.ht; omega) (fun k e => by cases e; exact c.h0.1)
  refine ⟨hT, ⟨by simpa using hT.set 0 (.slice (some ⟨g0, 0, none⟩) (L.length + 1) M), Blk.setOther (a := ⟨T, 0, none⟩) hst (by have := c; exact Blk.ne hst hT (by decide)) _, Blk.setOther (a := ⟨T, 0, none⟩) hws (Blk.ne hws hT (by decide)) _, Blk.setOther (a := ⟨T, 0, none⟩) hso (Blk.ne hso hT (by decide)) _, ?_, ⟨xs, own_setOther hx' (a := ⟨T, 0, none⟩) (own_ne_blk hx' hT (by decide)) _⟩, ?_⟩, hbW'⟩
  · have := own_setOther hn (a := ⟨T, 0, none⟩) (own_ne_blk hn hT (by decide)) (.slice (some ⟨g0, 0, none⟩) (L.length + 1) M)
    simpa using this
  · exact hbW'.setCell (p := ⟨T, 0, none⟩) c.ht.1 _

/-- 'tab.writers = append(tab.writers, k)' -/
theorem SpSt.appWr {W' : World} {o : Obj} {xs : List Value} (c : SpC H2 T g0 g1 g3 gso) (h : SpSt W2 H2 T g0 g1 g3 gso nX M vw L zs l1 l3 so m W) (hx : W.ownsRow (gso + 1) 3 1 vw m xs) {v1 : Value} {y : Value} (hn : W'.ownsRow (gso + 1) 3 1 v1 (m + 1) (xs ++ [y])) (hg : (W.alloc o).grownBy W' vw.ownBlock) :
    Blk W' T 56 #[.slice (some ⟨g0, 0, none⟩) L.length M, .slice (some ⟨g1, 0, none⟩) (nX + 1) (nX + 1), vw, .slice (some ⟨g3, 0, none⟩) (nX + 1) (nX + 1), .slice none 0 0, .slice none 0 0] ∧
    SpSt W2 H2 T g0 g1 g3 gso nX M v1 L zs l1 l3 so (m + 1) (W'.setCell ⟨T, 2, none⟩ v1) ∧ Below H2 W2 W' := by
  have h' := h.alloc c o
  have hxa := hx.alloc o
  have hT := h'.t.grown hg (own_ne_blk hxa h'.t (by decide))
  have hst := Blk.grown h'.st hg (wr_ne hxa (by have := c.h1; omega))
  have hws := Blk.grown h'.ws hg (wr_ne hxa (by have := c.h3; omega))
  have hso := Blk.grown h'.so hg (wr_ne hxa (Nat.lt_succ_self _))
  have hsp := h'.sp.kept hg (own_ne_own h'.sp hxa (by decide))
  have hbW' : Below H2 W2 W' := h'.b.grown hg (by have := h'.size; have := c.ht; omega) (fun k e => by obtain ⟨_, _, hb⟩ := own_blk hxa e; have := c.ht; omega)
  refine ⟨hT, ⟨by simpa using hT.set 2 v1, Blk.setOther (a := ⟨T, 2, none⟩) hst (Blk.ne hst hT (by decide)) _, Blk.setOther (a := ⟨T, 2, none⟩) hws (Blk.ne hws hT (by decide)) _, Blk.setOther (a := ⟨T, 2, none⟩) hso (Blk.ne hso hT (by decide)) _, own_setOther hsp (a := ⟨T, 2, none⟩) (own_ne_blk hsp hT (by decide)) _, ⟨_, own_setOther hn (a := ⟨T, 2, none⟩) (own_ne_blk hn hT (by decide)) _⟩, hbW'.setCell (p := ⟨T, 2, none⟩) c.ht.1 _⟩, hbW'⟩
end

/-- L in the spans' cells -/
def Shown (L : List (Nat × Nat)) (zs : List Int) : Prop := ∀ k, k < L.length → zs.getD (k * 6) 0 = ((L.getD k (0, 0)).1 : Nat) ∧ zs.getD (k * 6 + 1) 0 = ((L.getD k (0, 0)).2 : Nat)

theorem Shown.set {L : List (Nat × Nat)} {zs : List Int} (h : Shown L zs) {k j : Nat} (hj : 2 ≤ j) (hj6 : j < 6) (v : Int) : Shown L (zs.set (k * 6 + j) v) := by
  intro i hi
  have e : ∀ q, q ≠ k * 6 + j → (zs.set (k * 6 + j) v).getD q 0 = zs.getD q 0 := fun q hq => by
    simp only [List.getD_eq_getElem?_getD, List.getElem?_set]
    rw [if_neg (Ne.symm hq)]
  rw [e _ (by omega), e _ (by omega)]
  exact h i hi

theorem Shown.app {L : List (Nat × Nat)} {zs : List Int} (h : Shown L zs) (hl : zs.length = L.length * 6) (t x : Nat) (i n : Int) : Shown (L ++ [(t, x)]) (zs ++ [(t : Int), (x : Int), i, 0, n, -1]) := by
  intro k hk
  simp only [List.length_append, List.length_cons, List.length_nil] at hk
  simp only [List.getD_eq_getElem?_getD]
  by_cases e : k = L.length
  · subst e
    rw [List.getElem?_append_right (by omega), List.getElem?_append_right (by omega), List.getElem?_append_right (by omega), hl]
    simp
  · have hk' : k < L.length := by omega
    rw [List.getElem?_append_left (by omega), List.getElem?_append_left (by omega), List.getElem?_append_left (by omega)]
    have := h k hk'
    simp only [List.getD_eq_getElem?_getD] at this
    exact this
theorem spAt_of {W2 W : World} {H2 T g0 g1 g3 gso nX M : Nat} {vw : Value} {L : List (Nat × Nat)} {zs l1 l3 so : List Int} {m : Nat} (h : SpSt W2 H2 T g0 g1 g3 gso nX M vw L zs l1 l3 so m W) (hsh : Shown L zs) : SpAt W W.heap.size (some ⟨g0, 0, none⟩) L := by
  intro h0
  obtain ⟨cur, hg0, _⟩ := own_blk h.sp (k := g0) rfl
  have hzl : zs.length = L.length * 6 := by have := h.sp.1; simpa using this
  have hc : ∀ q, q < zs.length → W.cell? ⟨g0, q, none⟩ = some (.int .i64 (zs.getD q 0)) := fun q hq => by
    rw [h.sp.cellAt q (by omega), List.getElem?_map, List.getElem?_eq_getElem hq, List.getD_eq_getElem?_getD, List.getElem?_eq_getElem hq]
    rfl
  refine ⟨g0, rfl, hg0.lt, fun k hk => ?_⟩
  have hs := hsh k hk
  refine ⟨by rw [hc _ (by omega), hs.1], by rw [hc _ (by omega), hs.2], _, _, _, _, hc _ (by omega), hc _ (by omega), hc _ (by omega), hc _ (by omega)⟩
end Go.Proofs.Ybulkri.A
