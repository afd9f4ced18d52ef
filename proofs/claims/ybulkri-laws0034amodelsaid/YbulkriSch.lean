/-
  The schedule that zzs0034bbuild makes, in memory.
-/
import Derived.Test.YbulkriHeap
import Derived.Test.YbulkriBPlain
namespace Go.Proofs.Ybulkri
open Go.RowKit

/-- the cells of a list of operations -/
def opCells (ops : List (Int × Int × Int)) : List Value := ops.flatMap fun o => [.int .u8 o.1, .int .i64 o.2.1, .int .i64 o.2.2]

theorem opCells_len (ops : List (Int × Int × Int)) : (opCells ops).length = ops.length * 3 := by
  induction ops with
  | nil => rfl
  | cons o ops ih => simp only [opCells, List.flatMap_cons, List.length_append, List.length_cons, List.length_nil] at ih ⊢; omega

theorem opCells_snoc (ops : List (Int × Int × Int)) (a b c : Int) : opCells (ops ++ [(a, b, c)]) = opCells ops ++ [.int .u8 a, .int .i64 b, .int .i64 c] := by
  simp [opCells]

theorem opCells_get (ops : List (Int × Int × Int)) (p : Nat) (hp : p < ops.length) :
    (opCells ops)[p * 3]? = some (.int .u8 (ops.getD p (0, 0, 0)).1) ∧ (opCells ops)[p * 3 + 1]? = some (.int .i64 (ops.getD p (0, 0, 0)).2.1) ∧ (opCells ops)[p * 3 + 2]? = some (.int .i64 (ops.getD p (0, 0, 0)).2.2) := by
  induction ops generalizing p with
  | nil => simp at hp
  | cons o ops ih =>
    cases p with
    | zero => simp [opCells]
    | succ p =>
      have := ih p (by simpa using hp)
      simp only [opCells, List.flatMap_cons] at this ⊢
      rw [show (p + 1) * 3 = p * 3 + 3 by omega]
      simpa [List.getElem?_append_right, Nat.add_assoc] using this

/-- The schedule at block S: its four fields, each the call's own row. -/
structure Sch (w : World) (S : Nat) (vo vt vi ve : Value) (ops : List (Int × Int × Int)) (txns : List Int) (items : List Value) (ends : List Int) : Prop where
  blk : Blk w S 37 #[vo, vt, vi, ve]
  o0 : w.ownsRow (S + 1) 34 3 vo ops.length (opCells ops)
  o1 : w.ownsRow (S + 1) 3 1 vt txns.length (txns.map (Value.int .i64))
  o2 : w.ownsRow (S + 1) 9 1 vi items.length items
  o3 : w.ownsRow (S + 1) 3 1 ve ends.length (ends.map (Value.int .i64))
  d : vt.ownBlock = none ∨ vt.ownBlock ≠ ve.ownBlock

section
variable {w w' : World} {S : Nat} {vo vt vi ve : Value} {ops : List (Int × Int × Int)} {txns : List Int} {items : List Value} {ends : List Int}

theorem Sch.alloc (h : Sch w S vo vt vi ve ops txns items ends) (o : Obj) : Sch (w.alloc o) S vo vt vi ve ops txns items ends :=
  ⟨h.blk.alloc o, h.o0.alloc o, h.o1.alloc o, h.o2.alloc o, h.o3.alloc o, h.d⟩

theorem Sch.d' (h : Sch w S vo vt vi ve ops txns items ends) : ve.ownBlock = none ∨ ve.ownBlock ≠ vt.ownBlock := by
  rcases h.d with hd | hd
  · cases hv : ve.ownBlock with
    | none => exact .inl rfl
    | some k => exact .inr (by rw [hd]; simp)
  · exact .inr (Ne.symm hd)

theorem own_lt_ne {base : Nat} {e : TypeId} {size : Nat} {v : Value} {n : Nat} {xs : List Value} (h : w.ownsRow base e size v n xs) : v.ownBlock = none ∨ v.ownBlock ≠ some w.heap.size := by
  cases hv : v.ownBlock with
  | none => exact .inl rfl
  | some k =>
    obtain ⟨c, hc, _⟩ := own_blk h hv
    exact .inr (by have := hc.lt; simp; omega)

/-- 's.txns = append(s.txns, x)' -/
theorem Sch.txnsAppend (h : Sch w S vo vt vi ve ops txns items ends) {v1 : Value} {x : Int} (hn : w'.ownsRow (S + 1) 3 1 v1 (txns.length + 1) (txns.map (Value.int .i64) ++ [.int .i64 x])) (hg : w.grownBy w' vt.ownBlock) (hat : v1.ownBlock = vt.ownBlock ∨ v1.ownBlock = some w.heap.size) :
    Blk w' S 37 #[vo, vt, vi, ve] ∧ Sch (w'.setCell ⟨S, 1, none⟩ v1) S vo v1 vi ve ops (txns ++ [x]) items ends := by
  have hS : some S ≠ vt.ownBlock := own_ne_low h.o1 (Nat.lt_succ_self S)
  have b1 := h.blk.grown hg hS
  refine ⟨b1, ⟨b1.set 1 v1, own_setOther (h.o0.kept hg (own_ne_own h.o0 h.o1 (by decide))) (own_ne_low h.o0 (Nat.lt_succ_self S)) _, ?_, own_setOther (h.o2.kept hg (own_ne_own h.o2 h.o1 (by decide))) (own_ne_low h.o2 (Nat.lt_succ_self S)) _,
    own_setOther (h.o3.kept hg h.d') (own_ne_low h.o3 (Nat.lt_succ_self S)) _, ?_⟩⟩
  · have := own_setOther hn (own_ne_low hn (Nat.lt_succ_self S)) (a := ⟨S, 1, none⟩) v1
    simpa using this
  · rcases hat with e | e
    · rw [e]; exact h.d
    · right
      rw [e]
      rcases own_lt_ne h.o3 with e' | e'
      · rw [e']; simp
      · exact Ne.symm e'

/-- 's.end = append(s.end, x)' -/
theorem Sch.endsAppend (h : Sch w S vo vt vi ve ops txns items ends) {v1 : Value} {x : Int} (hn : w'.ownsRow (S + 1) 3 1 v1 (ends.length + 1) (ends.map (Value.int .i64) ++ [.int .i64 x])) (hg : w.grownBy w' ve.ownBlock) (hat : v1.ownBlock = ve.ownBlock ∨ v1.ownBlock = some w.heap.size) :
    Blk w' S 37 #[vo, vt, vi, ve] ∧ Sch (w'.setCell ⟨S, 3, none⟩ v1) S vo vt vi v1 ops txns items (ends ++ [x]) := by
  have hS : some S ≠ ve.ownBlock := own_ne_low h.o3 (Nat.lt_succ_self S)
  have b1 := h.blk.grown hg hS
  refine ⟨b1, ⟨b1.set 3 v1, own_setOther (h.o0.kept hg (own_ne_own h.o0 h.o3 (by decide))) (own_ne_low h.o0 (Nat.lt_succ_self S)) _, own_setOther (h.o1.kept hg h.d) (own_ne_low h.o1 (Nat.lt_succ_self S)) _, own_setOther (h.o2.kept hg (own_ne_own h.o2 h.o3 (by decide))) (own_ne_low h.o2 (Nat.lt_succ_self S)) _, ?_, ?_⟩⟩
  · have := own_setOther hn (own_ne_low hn (Nat.lt_succ_self S)) (a := ⟨S, 3, none⟩) v1
    simpa using this
  · rcases hat with e | e
    · rw [e]; exact h.d
    · rw [e]; exact own_lt_ne h.o1

/-- 's.items = append(s.items, x)' -/
theorem Sch.itemsAppend (h : Sch w S vo vt vi ve ops txns items ends) {v1 x : Value} (hn : w'.ownsRow (S + 1) 9 1 v1 (items.length + 1) (items ++ [x])) (hg : w.grownBy w' vi.ownBlock) :
    Blk w' S 37 #[vo, vt, vi, ve] ∧ Sch (w'.setCell ⟨S, 2, none⟩ v1) S vo vt v1 ve ops txns (items ++ [x]) ends := by
  have hS : some S ≠ vi.ownBlock := own_ne_low h.o2 (Nat.lt_succ_self S)
  have b1 := h.blk.grown hg hS
  refine ⟨b1, ⟨b1.set 2 v1, own_setOther (h.o0.kept hg (own_ne_own h.o0 h.o2 (by decide))) (own_ne_low h.o0 (Nat.lt_succ_self S)) _, own_setOther (h.o1.kept hg (own_ne_own h.o1 h.o2 (by decide))) (own_ne_low h.o1 (Nat.lt_succ_self S)) _, ?_, own_setOther (h.o3.kept hg (own_ne_own h.o3 h.o2 (by decide))) (own_ne_low h.o3 (Nat.lt_succ_self S)) _, h.d⟩⟩
  have := own_setOther hn (own_ne_low hn (Nat.lt_succ_self S)) (a := ⟨S, 2, none⟩) v1
  simpa using this

/-- 's.ops = append(s.ops, op{..})' -/
theorem Sch.opsAppend (h : Sch w S vo vt vi ve ops txns items ends) {v1 : Value} {a b c : Int} (hn : w'.ownsRow (S + 1) 34 3 v1 (ops.length + 1) (opCells ops ++ [.int .u8 a, .int .i64 b, .int .i64 c])) (hg : w.grownBy w' vo.ownBlock) :
    Blk w' S 37 #[vo, vt, vi, ve] ∧ Sch (w'.setCell ⟨S, 0, none⟩ v1) S v1 vt vi ve (ops ++ [(a, b, c)]) txns items ends := by
  have hS : some S ≠ vo.ownBlock := own_ne_low h.o0 (Nat.lt_succ_self S)
  have b1 := h.blk.grown hg hS
  refine ⟨b1, ⟨b1.set 0 v1, ?_, own_setOther (h.o1.kept hg (own_ne_own h.o1 h.o0 (by decide))) (own_ne_low h.o1 (Nat.lt_succ_self S)) _, own_setOther (h.o2.kept hg (own_ne_own h.o2 h.o0 (by decide))) (own_ne_low h.o2 (Nat.lt_succ_self S)) _, own_setOther (h.o3.kept hg (own_ne_own h.o3 h.o0 (by decide))) (own_ne_low h.o3 (Nat.lt_succ_self S)) _, h.d⟩⟩
  have := own_setOther hn (own_ne_low hn (Nat.lt_succ_self S)) (a := ⟨S, 0, none⟩) v1
  rw [opCells_snoc]
  simpa using this

/-- 's.end[t] = x' -/
theorem Sch.endsSet {g n cap : Nat} (h : Sch w S vo vt vi (.slice (some ⟨g, 0, none⟩) n cap) ops txns items ends) (t : Nat) (x : Int) :
    Sch (w.setCell ⟨g, t, none⟩ (.int .i64 x)) S vo vt vi (.slice (some ⟨g, 0, none⟩) n cap) ops txns items (ends.set t x) := by
  have hl : n = ends.length := by
    rcases h.o3.2 with ⟨e, _⟩ | ⟨g', cap', cur, e, _⟩
    · simp at e
    · simp only [Value.slice.injEq] at e; exact e.2.1
  subst hl
  have hst := h.o3.stored t (.int .i64 x)
  have hb : S + 1 ≤ g := by
    obtain ⟨_, _, hb⟩ := own_blk h.o3 (k := g) rfl
    exact hb
  refine ⟨h.blk.setOther (by simp; omega) _, own_setOther h.o0 ?_ _, own_setOther h.o1 ?_ _, own_setOther h.o2 ?_ _, ?_, h.d⟩
  · intro e
    rcases own_ne_own h.o0 h.o3 (by decide) with e' | e'
    · rw [e'] at e; simp at e
    · exact e' e.symm
  · intro e
    rcases h.d with e' | e'
    · rw [e'] at e; simp at e
    · exact e' e.symm
  · intro e
    rcases own_ne_own h.o2 h.o3 (by decide) with e' | e'
    · rw [e'] at e; simp at e
    · exact e' e.symm
  · have := hst.1
    rw [← List.map_set] at this
    simpa using this

theorem grown_below {w0 W W' : World} {B base : Nat} {e : TypeId} {size n : Nat} {v : Value} {xs : List Value} {o : Obj} (hbel : Below B w0 W) (hB : B ≤ W.heap.size) (hown : W.ownsRow base e size v n xs) (hle : B ≤ base) (hg : (W.alloc o).grownBy W' v.ownBlock) : Below B w0 W' :=
  (hbel.alloc hB o).grown hg (by simp; omega) (fun k e => by obtain ⟨_, _, h⟩ := own_blk hown e; omega)

section
variable {w0 W W' : World} {bs : Nat} {cur : Array Value} {o : Obj}

theorem Sch.txnsStep (h : Sch W S vo vt vi ve ops txns items ends) (hst : Blk W bs 48 cur) (hbel : Below S w0 W) {g c m : Nat} {x : Int} (hm : m = txns.length + 1)
    (hn : W'.ownsRow (S + 1) 3 1 (.slice (some ⟨g, 0, none⟩) m c) (txns.length + 1) (txns.map (Value.int .i64) ++ [.int .i64 x])) (hg : (W.alloc o).grownBy W' vt.ownBlock) (hat : some g = vt.ownBlock ∨ g = W.heap.size + 1) :
    Blk W' S 37 #[vo, vt, vi, ve] ∧ Sch (W'.setCell ⟨S, 1, none⟩ (.slice (some ⟨g, 0, none⟩) m c)) S vo (.slice (some ⟨g, 0, none⟩) m c) vi ve ops (txns ++ [x]) items ends ∧ Blk (W'.setCell ⟨S, 1, none⟩ (.slice (some ⟨g, 0, none⟩) m c)) bs 48 cur ∧ Below S w0 (W'.setCell ⟨S, 1, none⟩ (.slice (some ⟨g, 0, none⟩) m c)) := by
  subst hm
  obtain ⟨b1, s1⟩ := (h.alloc o).txnsAppend hn hg (by simpa [Value.ownBlock] using hat)
  refine ⟨b1, s1, ?_, (grown_below hbel (Nat.le_of_lt h.blk.lt) h.o1 (Nat.le_succ _) hg).setCell (p := ⟨S, 1, none⟩) (Nat.le_refl _) _⟩
  exact ((hst.alloc o).grown hg (own_ne_blk (h.alloc o).o1 (hst.alloc o) (by decide))).setOther (a := ⟨S, 1, none⟩) (hst.ne h.blk (by decide)) _

theorem Sch.endsStep (h : Sch W S vo vt vi ve ops txns items ends) (hst : Blk W bs 48 cur) (hbel : Below S w0 W) {g c m : Nat} {x : Int} (hm : m = ends.length + 1)
    (hn : W'.ownsRow (S + 1) 3 1 (.slice (some ⟨g, 0, none⟩) m c) (ends.length + 1) (ends.map (Value.int .i64) ++ [.int .i64 x])) (hg : (W.alloc o).grownBy W' ve.ownBlock) (hat : some g = ve.ownBlock ∨ g = W.heap.size + 1) :
    Blk W' S 37 #[vo, vt, vi, ve] ∧ Sch (W'.setCell ⟨S, 3, none⟩ (.slice (some ⟨g, 0, none⟩) m c)) S vo vt vi (.slice (some ⟨g, 0, none⟩) m c) ops txns items (ends ++ [x]) ∧ Blk (W'.setCell ⟨S, 3, none⟩ (.slice (some ⟨g, 0, none⟩) m c)) bs 48 cur ∧ Below S w0 (W'.setCell ⟨S, 3, none⟩ (.slice (some ⟨g, 0, none⟩) m c)) := by
  subst hm
  obtain ⟨b1, s1⟩ := (h.alloc o).endsAppend hn hg (by simpa [Value.ownBlock] using hat)
  refine ⟨b1, s1, ?_, (grown_below hbel (Nat.le_of_lt h.blk.lt) h.o3 (Nat.le_succ _) hg).setCell (p := ⟨S, 3, none⟩) (Nat.le_refl _) _⟩
  exact ((hst.alloc o).grown hg (own_ne_blk (h.alloc o).o3 (hst.alloc o) (by decide))).setOther (a := ⟨S, 3, none⟩) (hst.ne h.blk (by decide)) _

theorem Sch.itemsStep (h : Sch W S vo vt vi ve ops txns items ends) (hbel : Below S w0 W) {g c m : Nat} {x : Value} (hm : m = items.length + 1)
    (hn : W'.ownsRow (S + 1) 9 1 (.slice (some ⟨g, 0, none⟩) m c) (items.length + 1) (items ++ [x])) (hg : (W.alloc o).grownBy W' vi.ownBlock) :
    Blk W' S 37 #[vo, vt, vi, ve] ∧ Sch (W'.setCell ⟨S, 2, none⟩ (.slice (some ⟨g, 0, none⟩) m c)) S vo vt (.slice (some ⟨g, 0, none⟩) m c) ve ops txns (items ++ [x]) ends ∧ Below S w0 (W'.setCell ⟨S, 2, none⟩ (.slice (some ⟨g, 0, none⟩) m c)) := by
  subst hm
  obtain ⟨b1, s1⟩ := (h.alloc o).itemsAppend hn hg
  exact ⟨b1, s1, (grown_below hbel (Nat.le_of_lt h.blk.lt) h.o2 (Nat.le_succ _) hg).setCell (p := ⟨S, 2, none⟩) (Nat.le_refl _) _⟩

theorem Sch.opsStep (h : Sch W S vo vt vi ve ops txns items ends) (hbel : Below S w0 W) {g c m : Nat} {x y z : Int} (hm : m = ops.length + 1)
    (hn : W'.ownsRow (S + 1) 34 3 (.slice (some ⟨g, 0, none⟩) m c) (ops.length + 1) (opCells ops ++ [.int .u8 x, .int .i64 y, .int .i64 z])) (hg : (W.alloc o).grownBy W' vo.ownBlock) :
    Blk W' S 37 #[vo, vt, vi, ve] ∧ Sch (W'.setCell ⟨S, 0, none⟩ (.slice (some ⟨g, 0, none⟩) m c)) S (.slice (some ⟨g, 0, none⟩) m c) vt vi ve (ops ++ [(x, y, z)]) txns items ends ∧ Below S w0 (W'.setCell ⟨S, 0, none⟩ (.slice (some ⟨g, 0, none⟩) m c)) := by
  subst hm
  obtain ⟨b1, s1⟩ := (h.alloc o).opsAppend hn hg
  exact ⟨b1, s1, (grown_below hbel (Nat.le_of_lt h.blk.lt) h.o0 (Nat.le_succ _) hg).setCell (p := ⟨S, 0, none⟩) (Nat.le_refl _) _⟩

theorem Sch.setStep {g n cap : Nat} (h : Sch W S vo vt vi (.slice (some ⟨g, 0, none⟩) n cap) ops txns items ends) (hbel : Below S w0 W) (t : Nat) (x : Int) :
    Sch (W.setCell ⟨g, t, none⟩ (.int .i64 x)) S vo vt vi (.slice (some ⟨g, 0, none⟩) n cap) ops txns items (ends.set t x) ∧ Below S w0 (W.setCell ⟨g, t, none⟩ (.int .i64 x)) :=
  ⟨h.endsSet t x, hbel.setCell (p := ⟨g, t, none⟩) (by obtain ⟨_, _, h⟩ := own_blk h.o3 (k := g) rfl; exact (by omega : S ≤ g)) _⟩
end

end
end Go.Proofs.Ybulkri
