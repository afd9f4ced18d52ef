/-
  LawS0034AModel: (*groups).fill and groupPairs.
-/
import Derived.RangeFuncNested
import Derived.RangeFuncBound
import Derived.RangeFuncCalls
import Derived.RangeFuncLeaves
import Derived.Shelf.Abstract
import Derived.Shelf.RegionOpen
import Derived.WalkKit
import Derived.WalkSpells
import Derived.OwnWalkIn
import Derived.TacticsInMore
import Derived.LoopNIn
import Derived.LoopIn
import Derived.Deep.DeepCutAuto
import Derived.Deep.CutBlock
import Derived.Deep.DeepMust
import Derived.BigRegion
import Derived.Deep.RegionHeld3
import Derived.Test.YbulkriProg
import Derived.Test.YbulkriAIter
import Derived.Test.YbulkriAGroup
import Derived.Test.YbulkriAMake
import Derived.Test.YbulkriRound
import Derived.Laws.CopyOwn
namespace Go.Proofs.Ybulkri.A
open Go.RowKit Go.Shelf
attribute [local go_sem] Oper.semAt_some
set_option linter.unusedVariables false
set_option linter.unusedSimpArgs false

theorem IRow.cellOf {w : World} {g : Nat} {zs : List Int} (h : IRow w g zs) {j : Nat} (hj : j < zs.length) : w.cell? ⟨g, j, none⟩ = some (.int .i64 (zs.getD j 0)) :=
  Blk.cellOf h (by simp [hj])
theorem IRow.set {w : World} {g : Nat} {zs : List Int} (h : IRow w g zs) (j : Nat) (v : Int) : IRow (w.setCell ⟨g, j, none⟩ (.int .i64 v)) g (zs.set j v) := by
  have := Blk.set h j (.int .i64 v)
  unfold IRow
  rw [List.map_set]
  simpa using this
theorem IRow.new (w : World) (n : Nat) : IRow (w.alloc (.cells (Array.replicate n (Value.int .i64 0)) 3)) w.heap.size (List.replicate n 0) := by
  have := Blk.new w 3 (Array.replicate n (Value.int .i64 0))
  unfold IRow
  simpa using this

theorem IRow.blk {w : World} {g : Nat} {zs : List Int} (h : IRow w g zs) : Blk w g 3 (zs.map (Value.int .i64)).toArray := h

/-- fill's variables -/
structure FAt (w : World) (G Bx gs n : Nat) (vv : Value) (st : List Int) (Ds : List Nat) (W : World) : Prop where
  bx : Blk W Bx 98 #[.pointer (some ⟨G, 0, none⟩)]
  g : Blk W G 54 #[.slice (some ⟨gs, 0, none⟩) (n + 1) (n + 1), vv]
  st : IRow W gs st
  b : Below G w W
  le : G ≤ gs
  ds : ∀ D ∈ Ds, W.heap[D]? = some (.deferred (some [])) ∧ G ≤ D

section
variable {w W : World} {G Bx gs n : Nat} {vv : Value} {st : List Int} {Ds : List Nat}

theorem FAt.alloc (h : FAt w G Bx gs n vv st Ds W) (o : Obj) : FAt w G Bx gs n vv st Ds (W.alloc o) :=
  ⟨h.bx.alloc o, h.g.alloc o, Blk.alloc h.st o, h.b.alloc (Nat.le_of_lt h.g.lt) o, h.le, fun D hD => ⟨(Below.heap_alloc _ _ _ (Array.getElem?_eq_some_iff.1 (h.ds D hD).1).1).trans (h.ds D hD).1, (h.ds D hD).2⟩⟩
theorem FAt.drew (h : FAt w G Bx gs n vv st Ds W) : FAt w G Bx gs n vv st Ds W.drew :=
  ⟨h.bx.drew, h.g.drew, Blk.drew h.st, h.b.drew, h.le, h.ds⟩
theorem defer_ne {D g : Nat} {e : TypeId} {cur : Array Value} (h : W.heap[D]? = some (.deferred (some []))) (hb : Blk W g e cur) : D ≠ g := by
  rintro rfl
  rw [Blk, h] at hb
  simp at hb
theorem FAt.setSt (h : FAt w G Bx gs n vv st Ds W) (j : Nat) (v : Int) : FAt w G Bx gs n vv (st.set j v) Ds (W.setCell ⟨gs, j, none⟩ (.int .i64 v)) :=
  ⟨h.bx.setOther (a := ⟨gs, j, none⟩) (h.bx.ne h.st.blk (by decide)) _, h.g.setOther (a := ⟨gs, j, none⟩) (h.g.ne h.st.blk (by decide)) _, h.st.set j v, h.b.setCell (p := ⟨gs, j, none⟩) h.le _, h.le,
   fun D hD => ⟨(Below.heap_setCell _ ⟨gs, j, none⟩ _ _ (defer_ne (h.ds D hD).1 h.st.blk)).trans (h.ds D hD).1, (h.ds D hD).2⟩⟩
theorem FAt.setV (h : FAt w G Bx gs n vv st Ds W) {gv : Nat} {vs : List Int} (hv : IRow W gv vs) (hne : gs ≠ gv) (hle : G ≤ gv) (j : Nat) (v : Int) : FAt w G Bx gs n vv st Ds (W.setCell ⟨gv, j, none⟩ (.int .i64 v)) :=
  ⟨h.bx.setOther (a := ⟨gv, j, none⟩) (h.bx.ne hv.blk (by decide)) _, h.g.setOther (a := ⟨gv, j, none⟩) (h.g.ne hv.blk (by decide)) _, Blk.setOther h.st hne _, h.b.setCell (p := ⟨gv, j, none⟩) hle _, h.le,
   fun D hD => ⟨(Below.heap_setCell _ ⟨gv, j, none⟩ _ _ (defer_ne (h.ds D hD).1 hv.blk)).trans (h.ds D hD).1, (h.ds D hD).2⟩⟩
theorem FAt.setG (h : FAt w G Bx gs n vv st Ds W) (v : Value) : FAt w G Bx gs n v st Ds (W.setCell ⟨G, 1, none⟩ v) :=
  ⟨h.bx.setOther (h.bx.ne h.g (by decide)) _, h.g.set 1 v, Blk.setOther h.st (Blk.ne h.st h.g (by decide)) _, h.b.setCell (p := ⟨G, 1, none⟩) (Nat.le_refl _) _, h.le,
   fun D hD => ⟨(Below.heap_setCell _ _ _ _ (defer_ne (h.ds D hD).1 h.g)).trans (h.ds D hD).1, (h.ds D hD).2⟩⟩
theorem grown_blk {W W' : World} {row : Option Nat} {B g : Nat} {e : TypeId} {cur : Array Value} (h : Blk W g e cur) (hg : W.grownBy W' row) (hr : ∀ r, row = some r → B ≤ r ∧ ∃ o : Obj, W.heap[r]? = some o ∧ o.isCells = false) : Blk W' g e cur := by
  refine h.grown hg fun he => ?_
  obtain ⟨_, o, h1, h2⟩ := hr g he.symm
  rw [h] at h1
  simp only [Option.some.injEq] at h1
  subst h1
  simp [Obj.isCells] at h2
theorem FAt.grown {W' : World} {row : Option Nat} {B : Nat} (h : FAt w G Bx gs n vv st Ds W) (hG : G ≤ B) (hD : ∀ D ∈ Ds, D < B) (hg : W.grownBy W' row) (hr : ∀ r, row = some r → B ≤ r ∧ ∃ o : Obj, W.heap[r]? = some o ∧ o.isCells = false) : FAt w G Bx gs n vv st Ds W' :=
  ⟨grown_blk h.bx hg hr, grown_blk h.g hg hr, grown_blk h.st hg hr, h.b.grown hg (Nat.le_of_lt h.g.lt) (fun r e => by have := (hr r e).1; omega), h.le,
   fun D hD' => ⟨(hg.block D (Array.getElem?_eq_some_iff.1 (h.ds D hD').1).1 (fun e => by have := (hr D e.symm).1; have := hD D hD'; omega)).trans (h.ds D hD').1, (h.ds D hD').2⟩⟩
end

theorem wrapI (n : Int) (h : -9223372036854775808 ≤ n ∧ n ≤ 9223372036854775807) : IntKind.i64.wrap n = n := by rw [IntKind.wrap_i64]; omega

theorem FAt.first {w W1 : World} {G n : Nat} (hbx : Blk W1 w.heap.size 98 #[.pointer (some ⟨G, 0, none⟩)]) (hG : Blk W1 G 54 #[.slice none 0 0, .slice none 0 0]) (hb : Below G w W1) (hsz : W1.heap.size = w.heap.size + 1) (hlt : G < w.heap.size) :
    FAt w G w.heap.size (w.heap.size + 1) n (.slice none 0 0) (List.replicate (n + 1) 0) [] (((W1.setCell ⟨G, 0, none⟩ (.slice (some ⟨w.heap.size + 1, 0, none⟩) (n + 1) (n + 1))).alloc (.cells (Array.replicate (n + 1) (Value.int .i64 0)) 3)).drew) := by
  refine FAt.drew ⟨(hbx.setOther (a := ⟨G, 0, none⟩) (by show w.heap.size ≠ G; omega) _).alloc _, (hG.set 0 _).alloc _, ?_, (hb.setCell (p := ⟨G, 0, none⟩) (Nat.le_refl _) _).alloc (by simp [World.setCell]; omega) _, by omega, by simp⟩
  have := IRow.new (W1.setCell ⟨G, 0, none⟩ (.slice (some ⟨w.heap.size + 1, 0, none⟩) (n + 1) (n + 1))) (n + 1)
  have e : (W1.setCell ⟨G, 0, none⟩ (.slice (some ⟨w.heap.size + 1, 0, none⟩) (n + 1) (n + 1))).heap.size = w.heap.size + 1 := by rw [← hsz]; simp [World.setCell]
  rwa [e] at this

set_option maxHeartbeats 400000 in
theorem resized_new (w : World) (n : Nat) (z : Int) (hz : z = n) (hn : 0 < n) (hL : n ≤ 100000) :
    Calls Yba.prog 44 #[.slice none 0 0, .int .i64 z] w fun e w' => e = .returned (.slice (some ⟨w.heap.size, 0, none⟩) n n) ∧ w' = w.alloc (.cells (Array.replicate n (Value.int .i64 0)) 3) := by
  subst hz
  exact resized_nil w n hn hL

theorem FAt.held {w W : World} {G Bx gs n k : Nat} {vv : Value} {st : List Int} {Ds : List Nat} {b : Int} (hf : FAt w G Bx gs n vv st Ds W) (hk : k < st.length) (hb : st.getD k 0 = b) :
    W.cell? ⟨Bx, 0, none⟩ = some (.pointer (some ⟨G, 0, none⟩)) ∧ W.cell? ⟨G, 0, none⟩ = some (.slice (some ⟨gs, 0, none⟩) (n + 1) (n + 1)) ∧ W.cell? ⟨gs, k, none⟩ = some (.int .i64 b) :=
  ⟨hf.bx.cellOf rfl, hf.g.cellOf rfl, by rw [← hb]; exact hf.st.cellOf hk⟩

theorem FAt.second {w W : World} {G Bx gs n N : Nat} {st : List Int} {Ds : List Nat} (hf : FAt w G Bx gs n (.slice none 0 0) st Ds W) :
    FAt w G Bx gs n (.slice (some ⟨W.heap.size, 0, none⟩) N N) st Ds (((W.setCell ⟨G, 1, none⟩ (.slice (some ⟨W.heap.size, 0, none⟩) N N)).alloc (.cells (Array.replicate N (Value.int .i64 0)) 3)).drew) ∧
      IRow (((W.setCell ⟨G, 1, none⟩ (.slice (some ⟨W.heap.size, 0, none⟩) N N)).alloc (.cells (Array.replicate N (Value.int .i64 0)) 3)).drew) W.heap.size (List.replicate N 0) ∧ G < W.heap.size ∧ gs ≠ W.heap.size := by
  refine ⟨((hf.setG _).alloc _).drew, ?_, hf.g.lt, by have := hf.st.blk.lt; omega⟩
  have := IRow.new (W.setCell ⟨G, 1, none⟩ (.slice (some ⟨W.heap.size, 0, none⟩) N N)) N
  have e : (W.setCell ⟨G, 1, none⟩ (.slice (some ⟨W.heap.size, 0, none⟩) N N)).heap.size = W.heap.size := by simp [World.setCell]
  rw [e] at this
  exact Blk.drew this

theorem blk_setRow {W : World} {g g' : Nat} {e : TypeId} {cur cs : Array Value} (h : Blk W g e cur) (hne : g ≠ g') : Blk (W.setRow g' cs) g e cur := by
  unfold Blk
  rw [setRow_other W g' g cs (by omega)]
  exact h
theorem FAt.setRow {w W : World} {G Bx gs n : Nat} {vv : Value} {st : List Int} {Ds : List Nat} (h : FAt w G Bx gs n vv st Ds W) (st' : List Int) : FAt w G Bx gs n vv st' Ds (W.setRow gs (st'.map (Value.int .i64)).toArray) :=
  ⟨blk_setRow h.bx (h.bx.ne h.st.blk (by decide)), blk_setRow h.g (h.g.ne h.st.blk (by decide)), setRow_heap W gs _ _ 3 (0, 0) h.st, below_setRow h.b h.le _, h.le,
   fun D hD => ⟨(setRow_other W gs D _ (by have := defer_ne (h.ds D hD).1 h.st.blk; omega)).trans (h.ds D hD).1, (h.ds D hD).2⟩⟩

theorem info3b : (Yba.prog.info? 3).map (·.size) = some 1 := by kernel_rfl

theorem copy_at {W : World} {gs k o : Nat} {st : List Int} (h : IRow W gs st) (hl : st.length = k + 1) (ho : o + k ≤ k + 1) (ty : TypeId) :
    (Builtin.copy_ #[29, 29] ty #[.slice (some ⟨gs, o, none⟩) k k, .slice (some ⟨gs, 0, none⟩) k (k + 1)]).run Yba.prog W = .ok (goInt k) (W.setRow gs ((st.take o ++ st.take k ++ st.drop (o + k)).map (Value.int .i64)).toArray) := by
  have hlt : ((st.take k).map (Value.int .i64)).length = k := by simp; omega
  have := run_copy_row (P := Yba.prog) W 29 29 ty 3 gs o k k ⟨gs, 0, none⟩ k (k + 1) (st.map (Value.int .i64)).toArray 3 ((st.take k).map (Value.int .i64)) Yba.underlying29 info3b h (by rw [hlt]; simp) ?_ (by rw [hlt]; simp; omega) ?_
  · rw [hlt] at this
    rw [this]
    simp only [List.map_append, List.map_take, List.map_drop]
  · intro j v hj
    have hjk : j < k := by
      have := (List.getElem?_eq_some_iff.1 hj).1
      omega
    rw [List.getElem?_map, List.getElem?_take, if_pos hjk, List.getElem?_eq_getElem (show j < st.length by omega)] at hj
    simp only [Option.map_some, Option.some.injEq] at hj
    subst hj
    have := h.cellOf (j := j) (by omega)
    rw [List.getD_eq_getElem?_getD, List.getElem?_eq_getElem (show j < st.length by omega)] at this
    show W.cell? (Addr.add ⟨gs, 0, none⟩ j) = _
    have e : Addr.add ⟨gs, 0, none⟩ j = ⟨gs, j, none⟩ := by
      unfold Addr.add
      split <;> simp_all
    rw [e]
    simpa using this
  · intro v hv
    obtain ⟨z, _, rfl⟩ := List.mem_map.1 hv
    simp [Value.oneCell']

/-- 'copy(start[1:], start[:n])' -/
theorem copy_start {W : World} {gs k : Nat} {st : List Int} (h : IRow W gs st) (hl : st.length = k + 1) (ty : TypeId) :
    (Builtin.copy_ #[29, 29] ty #[.slice (if k = 0 then some ⟨gs, 0, none⟩ else some ⟨gs, 1, none⟩) k k, .slice (some ⟨gs, 0, none⟩) k (k + 1)]).run Yba.prog W = .ok (goInt k) (W.setRow gs ((st.take 1 ++ st.take k).map (Value.int .i64)).toArray) := by
  by_cases hk : k = 0
  · subst hk
    rw [if_pos rfl, copy_at (o := 0) h hl (by omega)]
    have e : st.take 0 ++ st.take 0 ++ st.drop (0 + 0) = st.take 1 ++ st.take 0 := by
      simp only [List.take_zero, List.nil_append, Nat.add_zero, List.drop_zero, List.append_nil]
      rw [List.take_of_length_le (by omega)]
    rw [e]
  · rw [if_neg hk, copy_at (o := 1) h hl (by omega)]
    have e : st.take 1 ++ st.take k ++ st.drop (1 + k) = st.take 1 ++ st.take k := by
      rw [List.drop_of_length_le (by omega), List.append_nil]
    rw [e]

theorem set_front {st : List Int} {k : Nat} (h : st.length = k + 1) : (st.take 1 ++ st.take k).set 0 0 = 0 :: st.take k := by
  cases st with
  | nil => simp at h
  | cons a l => simp

theorem blk_putObj {W : World} {g l : Nat} {e : TypeId} {cur : Array Value} {o : Obj} (h : Blk W g e cur) (hne : l ≠ g) : Blk (W.putObj l o) g e cur := by
  unfold Blk
  rw [World.putObj_heap_other (by omega)]
  exact h

/-- the function's end: its deferred rounds are taken up -/
theorem FAt.closed {w W : World} {G Bx gs n D1 D2 : Nat} {vv : Value} {st : List Int} (h : FAt w G Bx gs n vv st [D1, D2] W) (hne : D1 ≠ D2) (hG : G < D1 ∧ G < D2) :
    (W.putObj D2 (.deferred none)).heap[D1]? = some (.deferred (some [])) ∧ Blk ((W.putObj D2 (.deferred none)).putObj D1 (.deferred none)) G 54 #[.slice (some ⟨gs, 0, none⟩) (n + 1) (n + 1), vv] ∧ IRow ((W.putObj D2 (.deferred none)).putObj D1 (.deferred none)) gs st ∧ Below G w ((W.putObj D2 (.deferred none)).putObj D1 (.deferred none)) ∧
      ∀ gv vs, IRow W gv vs → IRow ((W.putObj D2 (.deferred none)).putObj D1 (.deferred none)) gv vs := by
  have h1 := (h.ds D1 (by simp)).1
  have h2 := (h.ds D2 (by simp)).1
  have h1' : (W.putObj D2 (.deferred none)).heap[D1]? = some (.deferred (some [])) := (World.putObj_heap_other (by omega)).trans h1
  refine ⟨h1', blk_putObj (blk_putObj h.g (by omega)) (by omega), blk_putObj (blk_putObj h.st (defer_ne h2 h.st.blk)) (defer_ne h1 h.st.blk), ?_, fun gv vs hv => blk_putObj (blk_putObj hv (defer_ne h2 hv.blk)) (defer_ne h1 hv.blk)⟩
  have hlt := h.g.lt
  exact (h.b.grown (grownBy_putObj' W D2 (.deferred none)) (Nat.le_of_lt hlt) (fun k e => by cases e; omega)).grown (grownBy_putObj' _ D1 (.deferred none)) (Nat.le_of_lt (blk_putObj h.g (by omega)).lt) (fun k e => by cases e; omega)

theorem neigh {W : World} {gs k : Nat} {st : List Int} {b : Int} (h : IRow W gs st) (hk : k < st.length) (hb : st.getD k 0 = b) (c : Int) : (W.setCell ⟨gs, k + 1, none⟩ (.int .i64 (c + b))).drew.cell? ⟨gs, k, none⟩ = some (.int .i64 b) := by
  have := (h.set (k + 1) (c + b)).cellOf (j := k) (by simpa using hk)
  rw [List.getD_eq_getElem?_getD, List.getElem?_set, if_neg (by omega), ← List.getD_eq_getElem?_getD, hb] at this
  exact this

theorem resized_zero2 (w : World) (z : Int) (hz : z = 0) : Calls Yba.prog 44 #[.slice none 0 0, .int .i64 z] w fun e w' => e = .returned (.slice none 0 0) ∧ w' = w := by
  subst hz
  exact resized_zero w

/-- a function's contract from its body, where the body holds a range over a function and no panic is met -/
theorem calls_marks {P : Program} {f : FuncId} {fn : Func} {c : Code} {args : Array Value} {w : World} {R : Ending → World → Prop} (hf : P.funcs[f]? = some fn) (hb : fn.body = some c)
    (h : c.wp P (Exit.then (fun a w => LeavesInM Fence.wide 6 P fn a.tmps R a.defers .returning w) (fun _ _ _ => False)) { tmps := args ++ Array.replicate (fn.ntmps - args.size) undef, defers := [] } w) : Calls P f args w R :=
  (callsIn_wide (n := 6)).1 (callsIn_of_wp_marks hf hb trivial (wpIn_wide.2 (wp_mono h (by intro e a w h; cases e <;> first | exact h | exact h.elim))) rfl)

set_option maxHeartbeats 16000000 in
set_option maxRecDepth 100000 in
theorem fill_any {w0 w : World} {n₀ G n gf : Nat} {lb : Array Value} {xs : List (Nat × Nat)} (hseq : SeqList Fence.wide 5 Yba.prog gf lb enc2 n₀ xs w0) (hb0 : Below w0.heap.size w0 w) (eg : ∀ args w, (callFunc gf args).run Yba.prog w = .ok (.enter gf args) w)
    (hn₀ : n₀ ≤ w0.heap.size) (hw0 : w0.heap.size ≤ G) (hG : Blk w G 54 #[.slice none 0 0, .slice none 0 0]) (hn : n ≤ 1024) (hk : ∀ p ∈ xs, p.1 < n ∧ p.2 ≤ 4096) (hl : xs.length ≤ 4096) :
    Calls Yba.prog 31 #[.pointer (some ⟨G, 0, none⟩), .int .i64 n, .func (.func gf) #[] lb] w fun e w' => (∃ v, e = .returned v) ∧ ∃ gs vv st vs, Blk w' G 54 #[.slice (some ⟨gs, 0, none⟩) (n + 1) (n + 1), vv] ∧ IRow w' gs st ∧ G < gs ∧ Below G w w' ∧ Grp n xs st vs ∧
      ((xs = [] ∧ vv = .slice none 0 0) ∨ ∃ gv, vv = .slice (some ⟨gv, 0, none⟩) xs.length xs.length ∧ IRow w' gv vs ∧ G < gv) := by
  have Hs : Hid (SeqList Fence.wide 5 Yba.prog gf lb enc2 n₀ xs w0) := hseq
  have Heg : Hid (∀ args w, (callFunc gf args).run Yba.prog w = .ok (.enter gf args) w) := eg
  clear hseq eg
  have hGlt := hG.lt
  have g0 := hG.cellOf (j := 0) rfl
  have g1 := hG.cellOf (j := 1) rfl
  have f0 := hG.frozen 0
  refine calls_marks Yba.func31 rfl ?_
  simp only [Yba.ntmps31, List.size_toArray, List.length_cons, List.length_nil, Nat.reduceAdd, Nat.reduceSub, Array.replicate_succ, Array.replicate_zero, List.push_toArray, List.append_toArray, List.nil_append, List.cons_append]
  go_upto_region 1 with fail
  have hbx := Blk.new w 98 #[.pointer (some ⟨G, 0, none⟩)]
  have hG1 := hG.alloc (.cells #[.pointer (some ⟨G, 0, none⟩)] 98)
  have hb1 := (Below.refl G w).alloc (by omega) (.cells #[.pointer (some ⟨G, 0, none⟩)] 98)
  have hsz : (w.alloc (.cells #[.pointer (some ⟨G, 0, none⟩)] 98)).heap.size = w.heap.size + 1 := by simp
  generalize w.alloc (.cells #[.pointer (some ⟨G, 0, none⟩)] 98) = W1 at *
  have e0 : ∀ o, (W1.alloc o).cell? ⟨G, 0, none⟩ = some (.slice none 0 0) := fun o => (hG1.alloc o).cellOf rfl
  have e1 : ∀ o, (W1.alloc o).cell? ⟨w.heap.size, 0, none⟩ = some (.pointer (some ⟨G, 0, none⟩)) := fun o => (hbx.alloc o).cellOf rfl
  have d0 : W1.cell? ⟨G, 0, none⟩ = some (.slice none 0 0) := hG1.cellOf rfl
  have d1 : W1.cell? ⟨w.heap.size, 0, none⟩ = some (.pointer (some ⟨G, 0, none⟩)) := hbx.cellOf rfl
  have z0 : ∀ o, (W1.alloc o).frozen? ⟨G, 0, none⟩ = false := fun o => (hG1.alloc o).frozen 0
  have hn1 : Hid ((n : Int) + 1 = ((n + 1 : Nat) : Int)) := (by omega : (n : Int) + 1 = ((n + 1 : Nat) : Int))
  have hwr : IntKind.i64.wrap ((n : Int) + 1) = (n : Int) + 1 := wrapI _ (by omega)
  go_cut [] from 10 to 19 (fun wc => ∃ gs, FAt w G w.heap.size gs n (.slice none 0 0) (List.replicate (n + 1) 0) [] wc ∧ G < gs)
  case first =>
    refine wp_region_noPanic ?_
    refine wp_region_held_drew (S := fun w' => w'.cell? ⟨w.heap.size, 0, none⟩ = some (.pointer (some ⟨G, 0, none⟩))) (by kernel_rfl) d1 (fun hHeld => ?_)
    refine wpAnyH_take (i := 0) (v := .pointer (some ⟨G, 0, none⟩)) rfl (by kernel_rfl) (by kernel_rfl) (by kernel_rfl) (fun _ _ _ h => h) (Or.inl ⟨by rfl, fun w hSw => by go_simp⟩) hHeld ?_
    try simp only [Act.put, List.setIfInBounds_toArray, List.set_cons_zero, List.set_cons_succ]
    refine wpAnyH_take (i := 1) (v := .pointer (some ⟨G, 0, none⟩)) rfl (by kernel_rfl) (by kernel_rfl) (by kernel_rfl) (fun _ _ _ h => h) (Or.inl ⟨by rfl, fun w hSw => by go_simp⟩) hHeld ?_
    try simp only [Act.put, List.setIfInBounds_toArray, List.set_cons_zero, List.set_cons_succ]
    refine wpAnyH_take (i := 2) (v := .pointer (some ⟨G, 0, none⟩)) rfl (by kernel_rfl) (by kernel_rfl) (by kernel_rfl) (fun _ _ _ h => h) (Or.inl ⟨by rfl, fun w hSw => by go_simp⟩) hHeld ?_
    try simp only [Act.put, List.setIfInBounds_toArray, List.set_cons_zero, List.set_cons_succ]
    refine wpAnyH_take (i := 3) (v := .pointer (some ⟨G, 0, none⟩)) rfl (by kernel_rfl) (by kernel_rfl) (by kernel_rfl) (fun _ _ _ h => h) (Or.inl ⟨by rfl, fun w hSw => by go_simp⟩) hHeld ?_
    try simp only [Act.put, List.setIfInBounds_toArray, List.set_cons_zero, List.set_cons_succ]
    refine wpAnyH_take (i := 5) (v := .int .i64 n) rfl (by kernel_rfl) (by kernel_rfl) (by kernel_rfl) (fun _ _ _ h => h) (Or.inl ⟨by rfl, fun w hSw => by go_simp⟩) hHeld ?_
    try simp only [Act.put, List.setIfInBounds_toArray, List.set_cons_zero, List.set_cons_succ]
    refine wpAnyH_take (i := 6) (v := .int .i64 ((n : Int) + 1)) rfl (by kernel_rfl) (by kernel_rfl) (by kernel_rfl) (fun _ _ _ h => h) (Or.inl ⟨by rfl, fun w hSw => by go_simp⟩) hHeld ?_
    try simp only [Act.put, List.setIfInBounds_toArray, List.set_cons_zero, List.set_cons_succ]
    refine wpAnyH_ready (rs := [4]) (by kernel_rfl) (by simp) ?_
    refine AllReadyH.cons rfl (fun K hK => ?_) AllReadyH.nil
    go_simp
    refine hK.out _ _ (hHeld) (fun hHeld => ?_)
    clear hK K
    try simp only [Act.put, List.setIfInBounds_toArray, List.set_cons_zero, List.set_cons_succ]
    refine wpAnyH_ready (rs := [7]) (by kernel_rfl) (by simp) ?_
    refine AllReadyH.cons rfl (fun K hK => ?_) AllReadyH.nil
    go_simp
    refine (resized_new _ (n + 1) _ hn1.out (by omega) (by omega)).mono ?_
    rintro e w' ⟨rfl, rfl⟩
    go_simp
    refine hK.out _ _ (e1 _) (fun hHeld => ?_)
    clear hK K
    try simp only [Act.put, List.setIfInBounds_toArray, List.set_cons_zero, List.set_cons_succ]
    refine wpAnyH_take (i := 8) (v := .pointer (some ⟨G, 0, none⟩)) rfl (by kernel_rfl) (by kernel_rfl) (by kernel_rfl) (fun _ _ _ h => h) (Or.inl ⟨by rfl, fun w hSw => by go_simp⟩) hHeld ?_
    try simp only [Act.put, List.setIfInBounds_toArray, List.set_cons_zero, List.set_cons_succ]
    refine wpAnyH_take (i := 9) (v := .pointer (some ⟨G, 0, none⟩)) rfl (by kernel_rfl) (by kernel_rfl) (by kernel_rfl) (fun _ _ _ h => h) (Or.inl ⟨by rfl, fun w hSw => by go_simp⟩) hHeld ?_
    try simp only [Act.put, List.setIfInBounds_toArray, List.set_cons_zero, List.set_cons_succ]
    refine wpAnyH_ready (rs := [10]) (by kernel_rfl) (by simp) ?_
    refine AllReadyH.cons rfl (fun K hK => ?_) AllReadyH.nil
    go_simp
    refine hK.out _ _ (((hbx.setOther (a := ⟨G, 0, none⟩) (show w.heap.size ≠ G by omega) _).alloc _).drew.cellOf rfl) (fun hHeld => ?_)
    clear hK K
    try simp only [Act.put, List.setIfInBounds_toArray, List.set_cons_zero, List.set_cons_succ]
    refine wpAnyH_done (by kernel_rfl) ?_ _
    refine NoPanic.normal ?_
    go_wp2_with fail
    go_meet
    case rel => exact ⟨_, FAt.first hbx hG1 hb1 hsz hGlt, by omega⟩
  case rest =>
    obtain ⟨gs, hF, hgs⟩ := hcut
    clear e0 e1 d0 d1 z0 hbx hG1 hb1 hsz hn1 hwr hG g0 g1 f0
    have hcnt : ∀ p, p <+: xs → ∀ k, (grp p k).length ≤ 4096 := fun p hp k => by
      have h1 := grp_prefix hp k
      have h2 : (grp xs k).length ≤ xs.length := by unfold grp; rw [List.length_map]; exact List.length_filter_le _ _
      omega
    have Hcnt : Hid (∀ p, p <+: xs → ∀ k, (grp p k).length ≤ 4096) := hcnt
    have Hk : Hid (∀ p ∈ xs, p.1 < n ∧ p.2 ≤ 4096) := hk
    clear hcnt hk
    go_wp2_with fail
    have hGc : G < wc.heap.size := hF.g.lt
    refine wpIn_wide.1 (range_list (n := 6) rfl (by omega) (gf := gf) (lb := lb) rfl trivial Heg.out Hs.out (hb0.trans (hF.b.mono hw0)) (by omega) (fun _ => rfl)
      (fun pre W => ∃ st, FAt w G w.heap.size gs n (.slice none 0 0) st [] W ∧ S1 n pre st)
      (fun s A B row ⟨st, hf, h1⟩ hg hr => ⟨st, hf.grown (by omega) (by simp) hg hr, h1⟩) ⟨_, hF, S1.start n⟩ ?a1 ?assign ?body ?done)
    case assign =>
      intro l x W K hK
      dsimp only [enc2]
      gi_wp2
      exact hK
    case body =>
      rintro l pre ⟨k, v⟩ W ⟨st, hf, h1⟩ hpre
      have hkn := Hk.out (k, v) (hpre.subset (by simp))
      dsimp only at hkn
      have cbx := hf.bx.cellOf (j := 0) rfl
      have cg := hf.g.cellOf (j := 0) rfl
      have cst := hf.st.cellOf (j := k + 1) (by rw [h1.len]; omega)
      have fst' := Blk.frozen hf.st (k + 1)
      have hc0 := h1.at' (k + 1) (by omega)
      have hc1 := Hcnt.out pre ((List.prefix_append _ _).trans hpre) k
      rw [if_neg (by omega)] at hc0
      simp only [Nat.add_sub_cancel] at hc0
      have H1 := h1.step (v := v) hkn.1
      have Hf := fun v => hf.setSt (k + 1) v
      obtain ⟨c, hc⟩ : ∃ c, st.getD (k + 1) 0 = c := ⟨_, rfl⟩
      rw [hc] at cst hc0 H1
      have hcb : 0 ≤ c ∧ c ≤ 4096 := by omega
      clear hc hc0 hc1
      gi_wp2
      exact ⟨(KeepsOthers.setCell _ _ _).from _, (Below.refl _ _).setCell (p := ⟨gs, k + 1, none⟩) (by show n₀ ≤ gs; omega) _, _, Hf _, H1⟩
    case done =>
      rintro D W hD ⟨st, hf, h1⟩ hK
      have hf1 : FAt w G w.heap.size gs n (.slice none 0 0) st [D] W := ⟨hf.bx, hf.g, hf.st, hf.b, hf.le, fun D' hD' => by simp only [List.mem_singleton] at hD'; subst hD'; exact ⟨hK, by omega⟩⟩
      have h2 := h1.sums
      clear hf h1 hF
      go_wp2_with fail
      go_loopg [34] n (fun g i wr => ∃ (k : Nat) (st : List Int), k ≤ n ∧ g = n - k ∧ i = .int .i64 k ∧ FAt w G w.heap.size gs n (.slice none 0 0) st [D] wr ∧ S2 n xs k st)
      case atStart => exact ⟨0, st, Nat.zero_le _, rfl, rfl, hf1, h2⟩
      case round =>
        clear hf1 h2
        obtain ⟨k, st, hk, rfl, rfl, hf, h2⟩ := hrel
        by_cases hlt : k < n
        · have cbx : wr.cell? ⟨w.heap.size, 0, none⟩ = some (.pointer (some ⟨G, 0, none⟩)) := hf.bx.cellOf (j := 0) rfl
          have cg : wr.cell? ⟨G, 0, none⟩ = some (.slice (some ⟨gs, 0, none⟩) (n + 1) (n + 1)) := hf.g.cellOf (j := 0) rfl
          have cst := hf.st.cellOf (j := k + 1) (by rw [h2.len]; omega)
          have cstk := hf.st.cellOf (j := k) (by rw [h2.len]; omega)
          have fst' := Blk.frozen hf.st (k + 1)
          have hc0 := h2.at' (k + 1) (by omega)
          have hb0' := h2.at' k (by omega)
          have hc1 := Hcnt.out xs (List.prefix_refl _) k
          have hb1 := off_le xs k
          rw [if_neg (by omega)] at hc0
          rw [if_pos (Nat.le_refl _)] at hb0'
          simp only [Nat.add_sub_cancel] at hc0
          have H2 := h2.step hlt
          have Hf := fun v => hf.setSt (k + 1) v
          obtain ⟨c, hc⟩ : ∃ c, st.getD (k + 1) 0 = c := ⟨_, rfl⟩
          obtain ⟨b, hb⟩ : ∃ b, st.getD k 0 = b := ⟨_, rfl⟩
          rw [hc, hb] at H2
          rw [hc] at cst hc0
          rw [hb] at cstk hb0'
          have hcb : 0 ≤ c ∧ c ≤ 4096 := by omega
          have hbb : 0 ≤ b ∧ b ≤ 4096 := by omega
          clear hc hc0 hc1 hb1 hb0'
          have hw1 : IntKind.i64.wrap ((k : Int) + 1) = (k : Int) + 1 := wrapI _ (by omega)
          have hw2 : IntKind.i64.wrap (c + b) = c + b := wrapI _ (by omega)
          have hi1 : (k : Int) + 1 < (n : Int) + 1 := by omega
          have hi2 : (k : Int) < (n : Int) + 1 := by omega
          have hi3 : (0 : Int) ≤ (k : Int) + 1 := by omega
          have Hn : Hid (_ ∧ _ ∧ _) := ⟨(Hf (c + b)).drew.bx.cellOf (j := 0) rfl, (Hf (c + b)).drew.g.cellOf (j := 0) rfl, (neigh hf.st (by rw [h2.len]; omega) hb c)⟩
          clear hb
          go_upto_region 8 with fail
          refine wp_region_noPanic ?_
          refine wp_region_held_drew (S := fun w' => w'.cell? ⟨w.heap.size, 0, none⟩ = some (.pointer (some ⟨G, 0, none⟩)) ∧ w'.cell? ⟨G, 0, none⟩ = some (.slice (some ⟨gs, 0, none⟩) (n + 1) (n + 1)) ∧ w'.cell? ⟨gs, k, none⟩ = some (.int .i64 b)) (by kernel_rfl) ⟨cbx, cg, cstk⟩ (fun hHeld => ?_)
          refine wpAnyH_take (i := 0) (v := .pointer (some ⟨G, 0, none⟩)) rfl (by kernel_rfl) (by kernel_rfl) (by kernel_rfl) (fun _ _ _ h => h) (Or.inl ⟨by rfl, fun w hSw => by go_simp⟩) hHeld ?_
          try simp only [Act.put, List.setIfInBounds_toArray, List.set_cons_zero, List.set_cons_succ]
          refine wpAnyH_take (i := 1) (v := .pointer (some ⟨G, 0, none⟩)) rfl (by kernel_rfl) (by kernel_rfl) (by kernel_rfl) (fun _ _ _ h => h) (Or.inl ⟨by rfl, fun w hSw => by go_simp⟩) hHeld ?_
          try simp only [Act.put, List.setIfInBounds_toArray, List.set_cons_zero, List.set_cons_succ]
          refine wpAnyH_take (i := 2) (v := .pointer (some ⟨G, 0, none⟩)) rfl (by kernel_rfl) (by kernel_rfl) (by kernel_rfl) (fun _ _ _ h => h) (Or.inl ⟨by rfl, fun w hSw => by go_simp⟩) hHeld ?_
          try simp only [Act.put, List.setIfInBounds_toArray, List.set_cons_zero, List.set_cons_succ]
          refine wpAnyH_take (i := 3) (v := .slice (some ⟨gs, 0, none⟩) (n + 1) (n + 1)) rfl (by kernel_rfl) (by kernel_rfl) (by kernel_rfl) (fun _ _ _ h => h) (Or.inl ⟨by rfl, fun w hSw => by go_simp⟩) hHeld ?_
          try simp only [Act.put, List.setIfInBounds_toArray, List.set_cons_zero, List.set_cons_succ]
          refine wpAnyH_take (i := 4) (v := .int .i64 k) rfl (by kernel_rfl) (by kernel_rfl) (by kernel_rfl) (fun _ _ _ h => h) (Or.inl ⟨by rfl, fun w hSw => by go_simp⟩) hHeld ?_
          try simp only [Act.put, List.setIfInBounds_toArray, List.set_cons_zero, List.set_cons_succ]
          refine wpAnyH_take (i := 5) (v := .int .i64 ((k : Int) + 1)) rfl (by kernel_rfl) (by kernel_rfl) (by kernel_rfl) (fun _ _ _ h => h) (Or.inl ⟨by rfl, fun w hSw => by go_simp⟩) hHeld ?_
          try simp only [Act.put, List.setIfInBounds_toArray, List.set_cons_zero, List.set_cons_succ]
          refine wpAnyH_take (i := 6) (v := .pointer (some ⟨gs, k + 1, none⟩)) rfl (by kernel_rfl) (by kernel_rfl) (by kernel_rfl) (fun _ _ _ h => h) (Or.inl ⟨by rfl, fun w hSw => by go_simp⟩) hHeld ?_
          try simp only [Act.put, List.setIfInBounds_toArray, List.set_cons_zero, List.set_cons_succ]
          refine wpAnyH_take (i := 8) (v := .pointer (some ⟨G, 0, none⟩)) rfl (by kernel_rfl) (by kernel_rfl) (by kernel_rfl) (fun _ _ _ h => h) (Or.inl ⟨by rfl, fun w hSw => by go_simp⟩) hHeld ?_
          try simp only [Act.put, List.setIfInBounds_toArray, List.set_cons_zero, List.set_cons_succ]
          refine wpAnyH_take (i := 9) (v := .pointer (some ⟨G, 0, none⟩)) rfl (by kernel_rfl) (by kernel_rfl) (by kernel_rfl) (fun _ _ _ h => h) (Or.inl ⟨by rfl, fun w hSw => by go_simp⟩) hHeld ?_
          try simp only [Act.put, List.setIfInBounds_toArray, List.set_cons_zero, List.set_cons_succ]
          refine wpAnyH_take (i := 10) (v := .pointer (some ⟨G, 0, none⟩)) rfl (by kernel_rfl) (by kernel_rfl) (by kernel_rfl) (fun _ _ _ h => h) (Or.inl ⟨by rfl, fun w hSw => by go_simp⟩) hHeld ?_
          try simp only [Act.put, List.setIfInBounds_toArray, List.set_cons_zero, List.set_cons_succ]
          refine wpAnyH_take (i := 11) (v := .slice (some ⟨gs, 0, none⟩) (n + 1) (n + 1)) rfl (by kernel_rfl) (by kernel_rfl) (by kernel_rfl) (fun _ _ _ h => h) (Or.inl ⟨by rfl, fun w hSw => by go_simp⟩) hHeld ?_
          try simp only [Act.put, List.setIfInBounds_toArray, List.set_cons_zero, List.set_cons_succ]
          refine wpAnyH_take (i := 12) (v := .int .i64 k) rfl (by kernel_rfl) (by kernel_rfl) (by kernel_rfl) (fun _ _ _ h => h) (Or.inl ⟨by rfl, fun w hSw => by go_simp⟩) hHeld ?_
          try simp only [Act.put, List.setIfInBounds_toArray, List.set_cons_zero, List.set_cons_succ]
          refine wpAnyH_take (i := 13) (v := .pointer (some ⟨gs, k, none⟩)) rfl (by kernel_rfl) (by kernel_rfl) (by kernel_rfl) (fun _ _ _ h => h) (Or.inl ⟨by rfl, fun w hSw => by go_simp⟩) hHeld ?_
          try simp only [Act.put, List.setIfInBounds_toArray, List.set_cons_zero, List.set_cons_succ]
          refine wpAnyH_take (i := 14) (v := .int .i64 b) rfl (by kernel_rfl) (by kernel_rfl) (by kernel_rfl) (fun _ _ _ h => h) (Or.inl ⟨by rfl, fun w hSw => by go_simp⟩) hHeld ?_
          try simp only [Act.put, List.setIfInBounds_toArray, List.set_cons_zero, List.set_cons_succ]
          refine wpAnyH_ready (rs := [7]) (by kernel_rfl) (by simp) ?_
          refine AllReadyH.cons rfl (fun K hK => ?_) AllReadyH.nil
          go_simp
          refine hK.out _ _ (hHeld) (fun hHeld => ?_)
          clear hK K
          try simp only [Act.put, List.setIfInBounds_toArray, List.set_cons_zero, List.set_cons_succ]
          refine wpAnyH_take (i := 15) (v := .int .i64 (c + b)) rfl (by kernel_rfl) (by kernel_rfl) (by kernel_rfl) (fun _ _ _ h => h) (Or.inl ⟨by rfl, fun w hSw => by go_simp⟩) hHeld ?_
          try simp only [Act.put, List.setIfInBounds_toArray, List.set_cons_zero, List.set_cons_succ]
          refine wpAnyH_take (i := 16) (v := .pointer (some ⟨gs, k + 1, none⟩)) rfl (by kernel_rfl) (by kernel_rfl) (by kernel_rfl) (fun _ _ _ h => h) (Or.inl ⟨by rfl, fun w hSw => by go_simp⟩) hHeld ?_
          try simp only [Act.put, List.setIfInBounds_toArray, List.set_cons_zero, List.set_cons_succ]
          refine wpAnyH_ready (rs := [17]) (by kernel_rfl) (by simp) ?_
          refine AllReadyH.cons rfl (fun K hK => ?_) AllReadyH.nil
          go_simp
          refine hK.out _ _ (⟨Hn.out.1, Hn.out.2.1, Hn.out.2.2⟩) (fun hHeld => ?_)
          clear hK K
          try simp only [Act.put, List.setIfInBounds_toArray, List.set_cons_zero, List.set_cons_succ]
          refine wpAnyH_done (by kernel_rfl) ?_ _
          refine NoPanic.normal ?_
          go_wp2_with fail
          go_roundg (n - (k + 1))
          case measure => omega
          case rel => exact ⟨k + 1, _, by omega, rfl, by go_num, (Hf (c + b)).drew, H2⟩
        · obtain rfl : k = n := by omega
          have cbx : wr.cell? ⟨w.heap.size, 0, none⟩ = some (.pointer (some ⟨G, 0, none⟩)) := hf.bx.cellOf (j := 0) rfl
          have cg : wr.cell? ⟨G, 0, none⟩ = some (.slice (some ⟨gs, 0, none⟩) (k + 1) (k + 1)) := hf.g.cellOf (j := 0) rfl
          have cg1 : wr.cell? ⟨G, 1, none⟩ = some (.slice none 0 0) := hf.g.cellOf (j := 1) rfl
          have fg1 := hf.g.frozen 1
          have Hlen : Hid (k < st.length) := (by rw [h2.len]; omega : k < st.length)
          have h3 := h2.vals
          obtain ⟨N, hN⟩ : ∃ N, N = xs.length := ⟨_, rfl⟩
          have Hlast : Hid (st.getD k 0 = (N : Int)) := by
            rw [hN, ← off_all (fun p hp => (Hk.out p hp).1)]
            exact h2.last
          rw [← hN] at hl
          have HN : Hid (N = xs.length) := hN
          have HG := hf.second (N := N)
          have cg1' : ∀ o, (wr.alloc o).cell? ⟨G, 1, none⟩ = some (.slice none 0 0) := fun o => (hf.alloc o).g.cellOf (j := 1) rfl
          have fg1' : ∀ o, (wr.alloc o).frozen? ⟨G, 1, none⟩ = false := fun o => (hf.alloc o).g.frozen 1
          have H2 : Hid (S2 k xs k st) := h2
          have H3 : Hid (S3 k xs [] st (List.replicate xs.length 0)) := h3
          have hi1 : ¬ ((k : Int) + 1 ≤ (k : Int)) := by omega
          clear hN h2 h3 cg cbx
          go_upto_region 10 with fail
          go_cut [] from 55 to 69 (fun wc => ∃ vv, FAt w G w.heap.size gs k vv st [D] wc ∧ ((N = 0 ∧ vv = .slice none 0 0) ∨ ∃ gv, vv = .slice (some ⟨gv, 0, none⟩) N N ∧ IRow wc gv (List.replicate N 0) ∧ G < gv ∧ gs ≠ gv))
          case first =>
           by_cases hN0 : 0 < N
           · refine wp_region_noPanic ?_
             refine wp_region_held_drew (S := fun w' => w'.cell? ⟨w.heap.size, 0, none⟩ = some (.pointer (some ⟨G, 0, none⟩)) ∧ w'.cell? ⟨G, 0, none⟩ = some (.slice (some ⟨gs, 0, none⟩) (k + 1) (k + 1)) ∧ w'.cell? ⟨gs, k, none⟩ = some (.int .i64 (N : Int))) (by kernel_rfl) (hf.drew.held Hlen.out Hlast.out) (fun hHeld => ?_)
             refine wpAnyH_take (i := 0) (v := .pointer (some ⟨G, 0, none⟩)) rfl (by kernel_rfl) (by kernel_rfl) (by kernel_rfl) (fun _ _ _ h => h) (Or.inl ⟨by rfl, fun w hSw => by go_simp⟩) hHeld ?_
             try simp only [Act.put, List.setIfInBounds_toArray, List.set_cons_zero, List.set_cons_succ]
             refine wpAnyH_take (i := 1) (v := .pointer (some ⟨G, 0, none⟩)) rfl (by kernel_rfl) (by kernel_rfl) (by kernel_rfl) (fun _ _ _ h => h) (Or.inl ⟨by rfl, fun w hSw => by go_simp⟩) hHeld ?_
             try simp only [Act.put, List.setIfInBounds_toArray, List.set_cons_zero, List.set_cons_succ]
             refine wpAnyH_take (i := 2) (v := .pointer (some ⟨G, 0, none⟩)) rfl (by kernel_rfl) (by kernel_rfl) (by kernel_rfl) (fun _ _ _ h => h) (Or.inl ⟨by rfl, fun w hSw => by go_simp⟩) hHeld ?_
             try simp only [Act.put, List.setIfInBounds_toArray, List.set_cons_zero, List.set_cons_succ]
             refine wpAnyH_take (i := 3) (v := .pointer (some ⟨G, 1, none⟩)) rfl (by kernel_rfl) (by kernel_rfl) (by kernel_rfl) (fun _ _ _ h => h) (Or.inl ⟨by rfl, fun w hSw => by go_simp⟩) hHeld ?_
             try simp only [Act.put, List.setIfInBounds_toArray, List.set_cons_zero, List.set_cons_succ]
             refine wpAnyH_take (i := 5) (v := .pointer (some ⟨G, 0, none⟩)) rfl (by kernel_rfl) (by kernel_rfl) (by kernel_rfl) (fun _ _ _ h => h) (Or.inl ⟨by rfl, fun w hSw => by go_simp⟩) hHeld ?_
             try simp only [Act.put, List.setIfInBounds_toArray, List.set_cons_zero, List.set_cons_succ]
             refine wpAnyH_take (i := 6) (v := .pointer (some ⟨G, 0, none⟩)) rfl (by kernel_rfl) (by kernel_rfl) (by kernel_rfl) (fun _ _ _ h => h) (Or.inl ⟨by rfl, fun w hSw => by go_simp⟩) hHeld ?_
             try simp only [Act.put, List.setIfInBounds_toArray, List.set_cons_zero, List.set_cons_succ]
             refine wpAnyH_take (i := 7) (v := .pointer (some ⟨G, 0, none⟩)) rfl (by kernel_rfl) (by kernel_rfl) (by kernel_rfl) (fun _ _ _ h => h) (Or.inl ⟨by rfl, fun w hSw => by go_simp⟩) hHeld ?_
             try simp only [Act.put, List.setIfInBounds_toArray, List.set_cons_zero, List.set_cons_succ]
             refine wpAnyH_take (i := 8) (v := .slice (some ⟨gs, 0, none⟩) (k + 1) (k + 1)) rfl (by kernel_rfl) (by kernel_rfl) (by kernel_rfl) (fun _ _ _ h => h) (Or.inl ⟨by rfl, fun w hSw => by go_simp⟩) hHeld ?_
             try simp only [Act.put, List.setIfInBounds_toArray, List.set_cons_zero, List.set_cons_succ]
             refine wpAnyH_take (i := 9) (v := .int .i64 k) rfl (by kernel_rfl) (by kernel_rfl) (by kernel_rfl) (fun _ _ _ h => h) (Or.inl ⟨by rfl, fun w hSw => by go_simp⟩) hHeld ?_
             try simp only [Act.put, List.setIfInBounds_toArray, List.set_cons_zero, List.set_cons_succ]
             refine wpAnyH_take (i := 10) (v := .pointer (some ⟨gs, k, none⟩)) rfl (by kernel_rfl) (by kernel_rfl) (by kernel_rfl) (fun _ _ _ h => h) (Or.inl ⟨by rfl, fun w hSw => by go_simp⟩) hHeld ?_
             try simp only [Act.put, List.setIfInBounds_toArray, List.set_cons_zero, List.set_cons_succ]
             refine wpAnyH_take (i := 11) (v := .int .i64 (N : Int)) rfl (by kernel_rfl) (by kernel_rfl) (by kernel_rfl) (fun _ _ _ h => h) (Or.inl ⟨by rfl, fun w hSw => by go_simp⟩) hHeld ?_
             try simp only [Act.put, List.setIfInBounds_toArray, List.set_cons_zero, List.set_cons_succ]
             refine wpAnyH_ready (rs := [4]) (by kernel_rfl) (by simp) ?_
             refine AllReadyH.cons rfl (fun K hK => ?_) AllReadyH.nil
             go_simp
             refine hK.out _ _ (hHeld) (fun hHeld => ?_)
             clear hK K
             try simp only [Act.put, List.setIfInBounds_toArray, List.set_cons_zero, List.set_cons_succ]
             refine wpAnyH_ready (rs := [12]) (by kernel_rfl) (by simp) ?_
             refine AllReadyH.cons rfl (fun K hK => ?_) AllReadyH.nil
             go_simp
             refine (resized_new _ N _ rfl hN0 (by omega)).mono ?_
             rintro e w' ⟨rfl, rfl⟩
             go_simp
             refine hK.out _ _ (((hf.alloc _).drew.held Hlen.out Hlast.out)) (fun hHeld => ?_)
             clear hK K
             try simp only [Act.put, List.setIfInBounds_toArray, List.set_cons_zero, List.set_cons_succ]
             refine wpAnyH_take (i := 13) (v := .pointer (some ⟨G, 0, none⟩)) rfl (by kernel_rfl) (by kernel_rfl) (by kernel_rfl) (fun _ _ _ h => h) (Or.inl ⟨by rfl, fun w hSw => by go_simp⟩) hHeld ?_
             try simp only [Act.put, List.setIfInBounds_toArray, List.set_cons_zero, List.set_cons_succ]
             refine wpAnyH_take (i := 14) (v := .pointer (some ⟨G, 1, none⟩)) rfl (by kernel_rfl) (by kernel_rfl) (by kernel_rfl) (fun _ _ _ h => h) (Or.inl ⟨by rfl, fun w hSw => by go_simp⟩) hHeld ?_
             try simp only [Act.put, List.setIfInBounds_toArray, List.set_cons_zero, List.set_cons_succ]
             refine wpAnyH_ready (rs := [15]) (by kernel_rfl) (by simp) ?_
             refine AllReadyH.cons rfl (fun K hK => ?_) AllReadyH.nil
             go_simp
             refine hK.out _ _ ((((hf.setG _).alloc _).drew.held Hlen.out Hlast.out)) (fun hHeld => ?_)
             clear hK K
             try simp only [Act.put, List.setIfInBounds_toArray, List.set_cons_zero, List.set_cons_succ]
             refine wpAnyH_done (by kernel_rfl) ?_ _
             refine NoPanic.normal ?_
             go_wp2_with fail
             go_meet
             case rel => exact ⟨_, HG.1, .inr ⟨_, rfl, HG.2⟩⟩
           · have hz0 : Hid ((N : Int) = 0) := (by omega : (N : Int) = 0)
             refine wp_region_noPanic ?_
             refine wp_region_held_drew (S := fun w' => w'.cell? ⟨w.heap.size, 0, none⟩ = some (.pointer (some ⟨G, 0, none⟩)) ∧ w'.cell? ⟨G, 0, none⟩ = some (.slice (some ⟨gs, 0, none⟩) (k + 1) (k + 1)) ∧ w'.cell? ⟨gs, k, none⟩ = some (.int .i64 (N : Int))) (by kernel_rfl) (hf.drew.held Hlen.out Hlast.out) (fun hHeld => ?_)
             refine wpAnyH_take (i := 0) (v := .pointer (some ⟨G, 0, none⟩)) rfl (by kernel_rfl) (by kernel_rfl) (by kernel_rfl) (fun _ _ _ h => h) (Or.inl ⟨by rfl, fun w hSw => by go_simp⟩) hHeld ?_
             try simp only [Act.put, List.setIfInBounds_toArray, List.set_cons_zero, List.set_cons_succ]
             refine wpAnyH_take (i := 1) (v := .pointer (some ⟨G, 0, none⟩)) rfl (by kernel_rfl) (by kernel_rfl) (by kernel_rfl) (fun _ _ _ h => h) (Or.inl ⟨by rfl, fun w hSw => by go_simp⟩) hHeld ?_
             try simp only [Act.put, List.setIfInBounds_toArray, List.set_cons_zero, List.set_cons_succ]
             refine wpAnyH_take (i := 2) (v := .pointer (some ⟨G, 0, none⟩)) rfl (by kernel_rfl) (by kernel_rfl) (by kernel_rfl) (fun _ _ _ h => h) (Or.inl ⟨by rfl, fun w hSw => by go_simp⟩) hHeld ?_
             try simp only [Act.put, List.setIfInBounds_toArray, List.set_cons_zero, List.set_cons_succ]
             refine wpAnyH_take (i := 3) (v := .pointer (some ⟨G, 1, none⟩)) rfl (by kernel_rfl) (by kernel_rfl) (by kernel_rfl) (fun _ _ _ h => h) (Or.inl ⟨by rfl, fun w hSw => by go_simp⟩) hHeld ?_
             try simp only [Act.put, List.setIfInBounds_toArray, List.set_cons_zero, List.set_cons_succ]
             refine wpAnyH_take (i := 5) (v := .pointer (some ⟨G, 0, none⟩)) rfl (by kernel_rfl) (by kernel_rfl) (by kernel_rfl) (fun _ _ _ h => h) (Or.inl ⟨by rfl, fun w hSw => by go_simp⟩) hHeld ?_
             try simp only [Act.put, List.setIfInBounds_toArray, List.set_cons_zero, List.set_cons_succ]
             refine wpAnyH_take (i := 6) (v := .pointer (some ⟨G, 0, none⟩)) rfl (by kernel_rfl) (by kernel_rfl) (by kernel_rfl) (fun _ _ _ h => h) (Or.inl ⟨by rfl, fun w hSw => by go_simp⟩) hHeld ?_
             try simp only [Act.put, List.setIfInBounds_toArray, List.set_cons_zero, List.set_cons_succ]
             refine wpAnyH_take (i := 7) (v := .pointer (some ⟨G, 0, none⟩)) rfl (by kernel_rfl) (by kernel_rfl) (by kernel_rfl) (fun _ _ _ h => h) (Or.inl ⟨by rfl, fun w hSw => by go_simp⟩) hHeld ?_
             try simp only [Act.put, List.setIfInBounds_toArray, List.set_cons_zero, List.set_cons_succ]
             refine wpAnyH_take (i := 8) (v := .slice (some ⟨gs, 0, none⟩) (k + 1) (k + 1)) rfl (by kernel_rfl) (by kernel_rfl) (by kernel_rfl) (fun _ _ _ h => h) (Or.inl ⟨by rfl, fun w hSw => by go_simp⟩) hHeld ?_
             try simp only [Act.put, List.setIfInBounds_toArray, List.set_cons_zero, List.set_cons_succ]
             refine wpAnyH_take (i := 9) (v := .int .i64 k) rfl (by kernel_rfl) (by kernel_rfl) (by kernel_rfl) (fun _ _ _ h => h) (Or.inl ⟨by rfl, fun w hSw => by go_simp⟩) hHeld ?_
             try simp only [Act.put, List.setIfInBounds_toArray, List.set_cons_zero, List.set_cons_succ]
             refine wpAnyH_take (i := 10) (v := .pointer (some ⟨gs, k, none⟩)) rfl (by kernel_rfl) (by kernel_rfl) (by kernel_rfl) (fun _ _ _ h => h) (Or.inl ⟨by rfl, fun w hSw => by go_simp⟩) hHeld ?_
             try simp only [Act.put, List.setIfInBounds_toArray, List.set_cons_zero, List.set_cons_succ]
             refine wpAnyH_take (i := 11) (v := .int .i64 (N : Int)) rfl (by kernel_rfl) (by kernel_rfl) (by kernel_rfl) (fun _ _ _ h => h) (Or.inl ⟨by rfl, fun w hSw => by go_simp⟩) hHeld ?_
             try simp only [Act.put, List.setIfInBounds_toArray, List.set_cons_zero, List.set_cons_succ]
             refine wpAnyH_ready (rs := [4]) (by kernel_rfl) (by simp) ?_
             refine AllReadyH.cons rfl (fun K hK => ?_) AllReadyH.nil
             go_simp
             refine hK.out _ _ (hHeld) (fun hHeld => ?_)
             clear hK K
             try simp only [Act.put, List.setIfInBounds_toArray, List.set_cons_zero, List.set_cons_succ]
             refine wpAnyH_ready (rs := [12]) (by kernel_rfl) (by simp) ?_
             refine AllReadyH.cons rfl (fun K hK => ?_) AllReadyH.nil
             go_simp
             refine (resized_zero2 _ _ hz0.out).mono ?_
             rintro e w' ⟨rfl, rfl⟩
             go_simp
             refine hK.out _ _ (hHeld) (fun hHeld => ?_)
             clear hK K
             try simp only [Act.put, List.setIfInBounds_toArray, List.set_cons_zero, List.set_cons_succ]
             refine wpAnyH_take (i := 13) (v := .pointer (some ⟨G, 0, none⟩)) rfl (by kernel_rfl) (by kernel_rfl) (by kernel_rfl) (fun _ _ _ h => h) (Or.inl ⟨by rfl, fun w hSw => by go_simp⟩) hHeld ?_
             try simp only [Act.put, List.setIfInBounds_toArray, List.set_cons_zero, List.set_cons_succ]
             refine wpAnyH_take (i := 14) (v := .pointer (some ⟨G, 1, none⟩)) rfl (by kernel_rfl) (by kernel_rfl) (by kernel_rfl) (fun _ _ _ h => h) (Or.inl ⟨by rfl, fun w hSw => by go_simp⟩) hHeld ?_
             try simp only [Act.put, List.setIfInBounds_toArray, List.set_cons_zero, List.set_cons_succ]
             refine wpAnyH_ready (rs := [15]) (by kernel_rfl) (by simp) ?_
             refine AllReadyH.cons rfl (fun K hK => ?_) AllReadyH.nil
             go_simp
             refine hK.out _ _ (((hf.setG _).drew.held Hlen.out Hlast.out)) (fun hHeld => ?_)
             clear hK K
             try simp only [Act.put, List.setIfInBounds_toArray, List.set_cons_zero, List.set_cons_succ]
             refine wpAnyH_done (by kernel_rfl) ?_ _
             refine NoPanic.normal ?_
             go_wp2_with fail
             go_meet
             case rel => exact ⟨_, (hf.setG _).drew, .inl ⟨by have := hz0.out; omega, rfl⟩⟩
          case rest =>
            clear cg1 fg1 cg1' fg1' HG hf
            obtain ⟨vv, hf, hor⟩ := hcut
            have hGc2 : G < wc.heap.size := hf.g.lt
            have hDc : D < wc.heap.size := (Array.getElem?_eq_some_iff.1 (hf.ds D (by simp)).1).1
            have hI0 : ∃ vs, S3 k xs [] st vs ∧ ∀ gv, vv = .slice (some ⟨gv, 0, none⟩) N N → IRow wc gv vs := by
              refine ⟨_, H3.out, fun gv hv => ?_⟩
              rw [← HN.out]
              rcases hor with ⟨_, rfl⟩ | ⟨gv', rfl, hrow, _⟩
              · simp at hv
              · simp only [Value.slice.injEq, Option.some.injEq, Addr.mk.injEq, and_true] at hv
                rw [← hv]
                exact hrow
            go_wp2_with fail
            refine wpIn_wide.1 (range_list (n := 6) rfl (by omega) (gf := gf) (lb := lb) rfl trivial Heg.out Hs.out (hb0.trans (hf.b.mono hw0)) (by omega) (fun _ => rfl)
              (fun pre W => ∃ st vs, FAt w G w.heap.size gs k vv st [D] W ∧ S3 k xs pre st vs ∧ ∀ gv, vv = .slice (some ⟨gv, 0, none⟩) N N → IRow W gv vs)
              (fun s A B row ⟨st, vs, hf, h1, h2⟩ hg hr => ⟨st, vs, hf.grown (by omega) (by simp; omega) hg hr, h1, fun gv hv => grown_blk (h2 gv hv) hg hr⟩) ?start ?a2 ?assign2 ?body2 ?done2)
            case start =>
              obtain ⟨vs, h1, h2⟩ := hI0
              exact ⟨st, vs, hf, h1, h2⟩
            case assign2 =>
              intro l x W K hK
              dsimp only [enc2]
              gi_wp2
              exact hK
            case body2 =>
              rintro l pre ⟨j, v⟩ W ⟨st, vs, hf, h1, h2⟩ hpre
              have hmem := hpre.subset (show (j, v) ∈ pre ++ [(j, v)] by simp)
              have hkn := Hk.out (j, v) hmem
              dsimp only at hkn
              have hNp : 0 < N := by rw [HN.out]; exact List.length_pos_of_mem hmem
              obtain ⟨gv, rfl, _, hGgv, hne⟩ : ∃ gv, vv = .slice (some ⟨gv, 0, none⟩) N N ∧ IRow wc gv (List.replicate N 0) ∧ G < gv ∧ gs ≠ gv := by
                rcases hor with ⟨h, _⟩ | h
                · omega
                · exact h
              have hrow := h2 gv rfl
              have hroom := room hpre
              have hle := off_le xs (j + 1)
              have hat := h1.at' j hkn.1
              have H1 := h1.step hkn.1 hpre
              obtain ⟨p, hp⟩ : ∃ p, off xs j + (grp pre j).length = p := ⟨_, rfl⟩
              rw [hp] at hroom hat H1
              rw [hat] at H1
              have hpN : p < N := by rw [HN.out]; omega
              have cbx : W.cell? ⟨w.heap.size, 0, none⟩ = some (.pointer (some ⟨G, 0, none⟩)) := hf.bx.cellOf (j := 0) rfl
              have cg : W.cell? ⟨G, 0, none⟩ = some (.slice (some ⟨gs, 0, none⟩) (k + 1) (k + 1)) := hf.g.cellOf (j := 0) rfl
              have cg1 : W.cell? ⟨G, 1, none⟩ = some (.slice (some ⟨gv, 0, none⟩) N N) := hf.g.cellOf (j := 1) rfl
              have cst := hf.st.cellOf (j := j) (by rw [h1.len]; omega)
              rw [hat] at cst
              have cv := hrow.cellOf (j := p) (by rw [h1.vlen, ← HN.out]; exact hpN)
              have fv := Blk.frozen hrow p
              have hf2 := hf.setV hrow hne (by omega) p (v : Int)
              have cbx2 : (W.setCell ⟨gv, p, none⟩ (.int .i64 (v : Int))).cell? ⟨w.heap.size, 0, none⟩ = some (.pointer (some ⟨G, 0, none⟩)) := hf2.bx.cellOf (j := 0) rfl
              have cg2 : (W.setCell ⟨gv, p, none⟩ (.int .i64 (v : Int))).cell? ⟨G, 0, none⟩ = some (.slice (some ⟨gs, 0, none⟩) (k + 1) (k + 1)) := hf2.g.cellOf (j := 0) rfl
              have cg12 : (W.setCell ⟨gv, p, none⟩ (.int .i64 (v : Int))).cell? ⟨G, 1, none⟩ = some (.slice (some ⟨gv, 0, none⟩) N N) := hf2.g.cellOf (j := 1) rfl
              have cst2 := hf2.st.cellOf (j := j) (by rw [h1.len]; omega)
              rw [hat] at cst2
              have fst2 := Blk.frozen hf2.st j
              have hj1 : (j : Int) < (k : Int) + 1 := by omega
              have hp1 : (p : Int) < (N : Int) := by omega
              have hp2 : (p : Int) ≤ 4096 := by omega
              have hj2 : j < k := hkn.1
              clear hroom hle hp hat hkn
              gi_wp2
              refine region_in_round (S := fun w' => w'.cell? ⟨w.heap.size, 0, none⟩ = some (.pointer (some ⟨G, 0, none⟩)) ∧ w'.cell? ⟨G, 0, none⟩ = some (.slice (some ⟨gs, 0, none⟩) (k + 1) (k + 1)) ∧ w'.cell? ⟨G, 1, none⟩ = some (.slice (some ⟨gv, 0, none⟩) N N) ∧ w'.cell? ⟨gs, j, none⟩ = some (.int .i64 (p : Int))) (by kernel_rfl) (by kernel_rfl) (by rintro ⟨a, w, h⟩; exact h) ⟨cbx, cg, cg1, cst⟩ (fun hHeld => ?_)
              refine wpAnyH_take (i := 0) (v := .pointer (some ⟨G, 0, none⟩)) rfl (by kernel_rfl) (by kernel_rfl) (by kernel_rfl) (fun _ _ _ h => h) (Or.inl ⟨by rfl, fun w hSw => by go_simp⟩) hHeld ?_
              try simp only [Act.put, List.setIfInBounds_toArray, List.set_cons_zero, List.set_cons_succ]
              refine wpAnyH_take (i := 1) (v := .pointer (some ⟨G, 0, none⟩)) rfl (by kernel_rfl) (by kernel_rfl) (by kernel_rfl) (fun _ _ _ h => h) (Or.inl ⟨by rfl, fun w hSw => by go_simp⟩) hHeld ?_
              try simp only [Act.put, List.setIfInBounds_toArray, List.set_cons_zero, List.set_cons_succ]
              refine wpAnyH_take (i := 2) (v := .pointer (some ⟨G, 1, none⟩)) rfl (by kernel_rfl) (by kernel_rfl) (by kernel_rfl) (fun _ _ _ h => h) (Or.inl ⟨by rfl, fun w hSw => by go_simp⟩) hHeld ?_
              try simp only [Act.put, List.setIfInBounds_toArray, List.set_cons_zero, List.set_cons_succ]
              refine wpAnyH_take (i := 3) (v := .slice (some ⟨gv, 0, none⟩) N N) rfl (by kernel_rfl) (by kernel_rfl) (by kernel_rfl) (fun _ _ _ h => h) (Or.inl ⟨by rfl, fun w hSw => by go_simp⟩) hHeld ?_
              try simp only [Act.put, List.setIfInBounds_toArray, List.set_cons_zero, List.set_cons_succ]
              refine wpAnyH_take (i := 4) (v := .pointer (some ⟨G, 0, none⟩)) rfl (by kernel_rfl) (by kernel_rfl) (by kernel_rfl) (fun _ _ _ h => h) (Or.inl ⟨by rfl, fun w hSw => by go_simp⟩) hHeld ?_
              try simp only [Act.put, List.setIfInBounds_toArray, List.set_cons_zero, List.set_cons_succ]
              refine wpAnyH_take (i := 5) (v := .pointer (some ⟨G, 0, none⟩)) rfl (by kernel_rfl) (by kernel_rfl) (by kernel_rfl) (fun _ _ _ h => h) (Or.inl ⟨by rfl, fun w hSw => by go_simp⟩) hHeld ?_
              try simp only [Act.put, List.setIfInBounds_toArray, List.set_cons_zero, List.set_cons_succ]
              refine wpAnyH_take (i := 6) (v := .pointer (some ⟨G, 0, none⟩)) rfl (by kernel_rfl) (by kernel_rfl) (by kernel_rfl) (fun _ _ _ h => h) (Or.inl ⟨by rfl, fun w hSw => by go_simp⟩) hHeld ?_
              try simp only [Act.put, List.setIfInBounds_toArray, List.set_cons_zero, List.set_cons_succ]
              refine wpAnyH_take (i := 7) (v := .slice (some ⟨gs, 0, none⟩) (k + 1) (k + 1)) rfl (by kernel_rfl) (by kernel_rfl) (by kernel_rfl) (fun _ _ _ h => h) (Or.inl ⟨by rfl, fun w hSw => by go_simp⟩) hHeld ?_
              try simp only [Act.put, List.setIfInBounds_toArray, List.set_cons_zero, List.set_cons_succ]
              refine wpAnyH_take (i := 8) (v := .int .i64 j) rfl (by kernel_rfl) (by kernel_rfl) (by kernel_rfl) (fun _ _ _ h => h) (Or.inl ⟨by rfl, fun w hSw => by go_simp⟩) hHeld ?_
              try simp only [Act.put, List.setIfInBounds_toArray, List.set_cons_zero, List.set_cons_succ]
              refine wpAnyH_take (i := 9) (v := .pointer (some ⟨gs, j, none⟩)) rfl (by kernel_rfl) (by kernel_rfl) (by kernel_rfl) (fun _ _ _ h => h) (Or.inl ⟨by rfl, fun w hSw => by go_simp⟩) hHeld ?_
              try simp only [Act.put, List.setIfInBounds_toArray, List.set_cons_zero, List.set_cons_succ]
              refine wpAnyH_take (i := 10) (v := .int .i64 (p : Int)) rfl (by kernel_rfl) (by kernel_rfl) (by kernel_rfl) (fun _ _ _ h => h) (Or.inl ⟨by rfl, fun w hSw => by go_simp⟩) hHeld ?_
              try simp only [Act.put, List.setIfInBounds_toArray, List.set_cons_zero, List.set_cons_succ]
              refine wpAnyH_take (i := 11) (v := .int .i64 (v : Int)) rfl (by kernel_rfl) (by kernel_rfl) (by kernel_rfl) (fun _ _ _ h => h) (Or.inl ⟨by rfl, fun w hSw => by go_simp⟩) hHeld ?_
              try simp only [Act.put, List.setIfInBounds_toArray, List.set_cons_zero, List.set_cons_succ]
              refine wpAnyH_take (i := 12) (v := .pointer (some ⟨gv, p, none⟩)) rfl (by kernel_rfl) (by kernel_rfl) (by kernel_rfl) (fun _ _ _ h => h) (Or.inl ⟨by rfl, fun w hSw => by go_simp⟩) hHeld ?_
              try simp only [Act.put, List.setIfInBounds_toArray, List.set_cons_zero, List.set_cons_succ]
              refine wpAnyH_ready (rs := [13]) (by kernel_rfl) (by simp) ?_
              refine AllReadyH.cons rfl (fun K hK => ?_) AllReadyH.nil
              go_simp
              refine hK.out _ _ (⟨cbx2, cg2, cg12, cst2⟩) (fun hHeld => ?_)
              clear hK K
              try simp only [Act.put, List.setIfInBounds_toArray, List.set_cons_zero, List.set_cons_succ]
              refine wpAnyH_done (by kernel_rfl) ?_ _
              gi_wp2
              refine ⟨(((KeepsOthers.setCell _ _ _).trans (KeepsOthers.setCell _ _ _)).trans (KeepsOthers.drew _)).from _, (((Below.refl _ _).setCell (p := ⟨gv, p, none⟩) (by show n₀ ≤ gv; omega) _).setCell (p := ⟨gs, j, none⟩) (by show n₀ ≤ gs; omega) _).drew, _, _, (hf2.setSt j _).drew, H1, fun gv' hv' => ?_⟩
              simp only [Value.slice.injEq, Option.some.injEq, Addr.mk.injEq, and_true] at hv'
              rw [← hv']
              exact Blk.drew (Blk.setOther (a := ⟨gs, j, none⟩) (hrow.set p (v : Int)) (Ne.symm hne) _)
            case done2 =>
              rintro D2 W hD2 ⟨st, vs, hf, h1, h2⟩ hK2
              have hlen := h1.len
              have hcp := copy_start (W := W.drew) (k := k) (Blk.drew hf.st) hlen
              have hf3 := hf.drew.setRow (st.take 1 ++ st.take k)
              obtain ⟨oa, hoa⟩ : ∃ oa, (if k = 0 then some (⟨gs, 0, none⟩ : Addr) else some ⟨gs, 1, none⟩) = oa := ⟨_, rfl⟩
              rw [hoa] at hcp
              have cbx : W.cell? ⟨w.heap.size, 0, none⟩ = some (.pointer (some ⟨G, 0, none⟩)) := hf.bx.cellOf (j := 0) rfl
              have cg : W.cell? ⟨G, 0, none⟩ = some (.slice (some ⟨gs, 0, none⟩) (k + 1) (k + 1)) := hf.g.cellOf (j := 0) rfl
              have hrow3 : ∀ gv, vv = .slice (some ⟨gv, 0, none⟩) N N → IRow (W.drew.setRow gs ((st.take 1 ++ st.take k).map (Value.int .i64)).toArray) gv vs ∧ G < gv := fun gv hv => by
                rcases hor with ⟨_, rfl⟩ | ⟨gv', rfl, _, hG', hne⟩
                · simp at hv
                · simp only [Value.slice.injEq, Option.some.injEq, Addr.mk.injEq, and_true] at hv
                  subst hv
                  exact ⟨blk_setRow (Blk.drew (h2 _ rfl)) (Ne.symm hne), hG'⟩
              have hK3 : (W.drew.setRow gs ((st.take 1 ++ st.take k).map (Value.int .i64)).toArray).heap[D2]? = some (.deferred (some [])) := (setRow_other _ gs D2 _ (by have := defer_ne hK2 hf.st.blk; omega)).trans hK2
              have hk1 : (1 : Int) ≤ (k : Int) + 1 := by omega
              have hk2 : ¬ ((k : Int) + 1 < (k : Int)) := by omega
              have c30 := hf3.st.cellOf (j := 0) (by simp; omega)
              have f30 := Blk.frozen hf3.st 0
              generalize W.drew.setRow gs ((st.take 1 ++ st.take k).map (Value.int .i64)).toArray = W3 at *
              have cbx3 : W3.cell? ⟨w.heap.size, 0, none⟩ = some (.pointer (some ⟨G, 0, none⟩)) := hf3.bx.cellOf (j := 0) rfl
              have cg3 : W3.cell? ⟨G, 0, none⟩ = some (.slice (some ⟨gs, 0, none⟩) (k + 1) (k + 1)) := hf3.g.cellOf (j := 0) rfl
              go_wp2_with fail
              refine wp_region_noPanic ?_
              refine wp_region_held_drew (S := fun w' => w'.cell? ⟨w.heap.size, 0, none⟩ = some (.pointer (some ⟨G, 0, none⟩)) ∧ w'.cell? ⟨G, 0, none⟩ = some (.slice (some ⟨gs, 0, none⟩) (k + 1) (k + 1))) (by kernel_rfl) ⟨cbx, cg⟩ (fun hHeld => ?_)
              refine wpAnyH_take (i := 0) (v := .pointer (some ⟨G, 0, none⟩)) rfl (by kernel_rfl) (by kernel_rfl) (by kernel_rfl) (fun _ _ _ h => h) (Or.inl ⟨by rfl, fun w hSw => by go_simp⟩) hHeld ?_
              try simp only [Act.put, List.setIfInBounds_toArray, List.set_cons_zero, List.set_cons_succ]
              refine wpAnyH_take (i := 1) (v := .pointer (some ⟨G, 0, none⟩)) rfl (by kernel_rfl) (by kernel_rfl) (by kernel_rfl) (fun _ _ _ h => h) (Or.inl ⟨by rfl, fun w hSw => by go_simp⟩) hHeld ?_
              try simp only [Act.put, List.setIfInBounds_toArray, List.set_cons_zero, List.set_cons_succ]
              refine wpAnyH_take (i := 2) (v := .pointer (some ⟨G, 0, none⟩)) rfl (by kernel_rfl) (by kernel_rfl) (by kernel_rfl) (fun _ _ _ h => h) (Or.inl ⟨by rfl, fun w hSw => by go_simp⟩) hHeld ?_
              try simp only [Act.put, List.setIfInBounds_toArray, List.set_cons_zero, List.set_cons_succ]
              refine wpAnyH_take (i := 3) (v := .slice (some ⟨gs, 0, none⟩) (k + 1) (k + 1)) rfl (by kernel_rfl) (by kernel_rfl) (by kernel_rfl) (fun _ _ _ h => h) (Or.inl ⟨by rfl, fun w hSw => by go_simp⟩) hHeld ?_
              try simp only [Act.put, List.setIfInBounds_toArray, List.set_cons_zero, List.set_cons_succ]
              refine wpAnyH_take (i := 4) (v := .slice oa k k) rfl (by kernel_rfl) (by kernel_rfl) (by kernel_rfl) (fun _ _ _ h => h) (Or.inl ⟨by rfl, fun w hSw => by go_simp⟩) hHeld ?_
              try simp only [Act.put, List.setIfInBounds_toArray, List.set_cons_zero, List.set_cons_succ]
              refine wpAnyH_take (i := 5) (v := .pointer (some ⟨G, 0, none⟩)) rfl (by kernel_rfl) (by kernel_rfl) (by kernel_rfl) (fun _ _ _ h => h) (Or.inl ⟨by rfl, fun w hSw => by go_simp⟩) hHeld ?_
              try simp only [Act.put, List.setIfInBounds_toArray, List.set_cons_zero, List.set_cons_succ]
              refine wpAnyH_take (i := 6) (v := .pointer (some ⟨G, 0, none⟩)) rfl (by kernel_rfl) (by kernel_rfl) (by kernel_rfl) (fun _ _ _ h => h) (Or.inl ⟨by rfl, fun w hSw => by go_simp⟩) hHeld ?_
              try simp only [Act.put, List.setIfInBounds_toArray, List.set_cons_zero, List.set_cons_succ]
              refine wpAnyH_take (i := 7) (v := .pointer (some ⟨G, 0, none⟩)) rfl (by kernel_rfl) (by kernel_rfl) (by kernel_rfl) (fun _ _ _ h => h) (Or.inl ⟨by rfl, fun w hSw => by go_simp⟩) hHeld ?_
              try simp only [Act.put, List.setIfInBounds_toArray, List.set_cons_zero, List.set_cons_succ]
              refine wpAnyH_take (i := 8) (v := .slice (some ⟨gs, 0, none⟩) (k + 1) (k + 1)) rfl (by kernel_rfl) (by kernel_rfl) (by kernel_rfl) (fun _ _ _ h => h) (Or.inl ⟨by rfl, fun w hSw => by go_simp⟩) hHeld ?_
              try simp only [Act.put, List.setIfInBounds_toArray, List.set_cons_zero, List.set_cons_succ]
              refine wpAnyH_take (i := 9) (v := .int .i64 k) rfl (by kernel_rfl) (by kernel_rfl) (by kernel_rfl) (fun _ _ _ h => h) (Or.inl ⟨by rfl, fun w hSw => by go_simp⟩) hHeld ?_
              try simp only [Act.put, List.setIfInBounds_toArray, List.set_cons_zero, List.set_cons_succ]
              refine wpAnyH_take (i := 10) (v := .slice (some ⟨gs, 0, none⟩) k (k + 1)) rfl (by kernel_rfl) (by kernel_rfl) (by kernel_rfl) (fun _ _ _ h => h) (Or.inl ⟨by rfl, fun w hSw => by go_simp⟩) hHeld ?_
              try simp only [Act.put, List.setIfInBounds_toArray, List.set_cons_zero, List.set_cons_succ]
              refine wpAnyH_ready (rs := [11]) (by kernel_rfl) (by simp) ?_
              refine AllReadyH.cons rfl (fun K hK => ?_) AllReadyH.nil
              go_simp
              refine hK.out _ _ (⟨cbx3, cg3⟩) (fun hHeld => ?_)
              clear hK K
              try simp only [Act.put, List.setIfInBounds_toArray, List.set_cons_zero, List.set_cons_succ]
              refine wpAnyH_done (by kernel_rfl) ?_ _
              refine NoPanic.normal ?_
              clear hoa
              go_wp2_with fail
              have hst4 := set_front hlen
              have hf4 := hf3.setSt 0 0
              rw [hst4] at hf4
              have hK4 : (W3.setCell ⟨gs, 0, none⟩ (.int .i64 0)).heap[D2]? = some (.deferred (some [])) := (Below.heap_setCell _ ⟨gs, 0, none⟩ _ _ (defer_ne hK3 hf3.st.blk)).trans hK3
              have hrow4 : ∀ gv, vv = .slice (some ⟨gv, 0, none⟩) N N → IRow (W3.setCell ⟨gs, 0, none⟩ (.int .i64 0)) gv vs ∧ G < gv := fun gv hv => by
                rcases hor with ⟨_, rfl⟩ | ⟨gv', rfl, _, hG', hne⟩
                · simp at hv
                · have h5 := hrow3 gv hv
                  simp only [Value.slice.injEq, Option.some.injEq, Addr.mk.injEq, and_true] at hv
                  subst hv
                  exact ⟨Blk.setOther (a := ⟨gs, 0, none⟩) h5.1 (Ne.symm hne) _, hG'⟩
              generalize W3.setCell ⟨gs, 0, none⟩ (.int .i64 0) = W4 at *
              have hf5 : FAt w G w.heap.size gs k vv (0 :: st.take k) [D, D2] W4 := ⟨hf4.bx, hf4.g, hf4.st, hf4.b, hf4.le, fun D' hD' => by
                simp only [List.mem_cons, List.not_mem_nil, or_false] at hD'
                rcases hD' with rfl | rfl
                · exact hf4.ds _ (by simp)
                · exact ⟨hK4, by omega⟩⟩
              obtain ⟨z1, z2, z3, z4, z5⟩ := hf5.closed (by omega) ⟨by omega, by omega⟩
              refine ⟨by simp, .inl ⟨_, _, rfl, run_takeDeferred hK4, ?_⟩⟩
              refine ⟨by simp, .inl ⟨_, _, rfl, run_takeDeferred z1, ?_⟩⟩
              refine ⟨_, results_none rfl _ _ _, ⟨_, rfl⟩, gs, vv, _, vs, z2, z3, hgs, z4, h1.done, ?_⟩
              rcases hor with ⟨h0, rfl⟩ | ⟨gv, rfl, _, hG', hne⟩
              · exact .inl ⟨List.eq_nil_of_length_eq_zero (by rw [← HN.out]; exact h0), rfl⟩
              · exact .inr ⟨gv, by rw [← HN.out], z5 _ _ (hrow4 gv rfl).1, hG'⟩
end Go.Proofs.Ybulkri.A
