/-
  LawS0034AModel: what the law builds, in memory.
-/
import Derived.Test.YbulkriAModel
import Derived.Test.YbulkriALInv
import Derived.Test.YbulkriAppend
import Derived.Test.YbulkriSch
namespace Go.Proofs.Ybulkri.A
open Go.RowKit
set_option linter.unusedVariables false
set_option linter.unusedSimpArgs false

def icells (f : Nat → Int) (n : Nat) : Array Value := ((List.range n).map fun j => Value.int .i64 (f j)).toArray
theorem icells_get (f : Nat → Int) {n j : Nat} (h : j < n) : (icells f n)[j]? = some (.int .i64 (f j)) := by simp [icells, h]
theorem icells_set (f : Nat → Int) {n j : Nat} (v : Int) : (icells f n).setIfInBounds j (.int .i64 v) = icells (putI f j v) n := by
  apply Array.ext
  · simp [icells]
  · intro i h1 h2
    rw [Array.getElem_setIfInBounds (by simpa using h1)]
    simp only [icells, List.getElem_toArray, List.getElem_map, List.getElem_range, putI]
    by_cases e : j = i
    · rw [if_pos e, if_pos e.symm]
    · rw [if_neg e, if_neg (Ne.symm e)]
theorem icells_congr {f g : Nat → Int} {n : Nat} (h : ∀ j, j < n → f j = g j) : icells f n = icells g n := by
  unfold icells
  rw [List.map_congr_left (g := fun j => Value.int .i64 (g j)) (fun j hj => by rw [h j (List.mem_range.1 hj)])]

def kcells : Array Value := #[.int .u8 1, .int .u8 2, .int .u8 3, .int .u8 4, .int .u8 5, .int .u8 6, .int .u8 7]

/-- the law's variables -/
structure LAt (w : World) (N : Nat) (vo vt vi ve : Value) (ops : List (Int × Int × Int)) (tI xI : Nat → Int) (en : Nat → Bool) (nT nE nX : Nat) (W : World) : Prop where
  k : Blk W N 24 kcells
  t : Blk W (N + 1) 25 (icells tI 4)
  x : Blk W (N + 1 + 1) 26 (icells xI 3)
  e : Blk W (N + 1 + 1 + 1) 27 (ucells en)
  o0 : W.ownsRow (N + 1 + 1 + 1 + 1) 34 3 vo ops.length (opCells ops)
  o1 : ∃ xs, W.ownsRow (N + 1 + 1 + 1 + 1) 3 1 vt nT xs
  o2 : ∃ xs, W.ownsRow (N + 1 + 1 + 1 + 1) 9 1 vi nX xs
  o3 : ∃ xs, W.ownsRow (N + 1 + 1 + 1 + 1) 3 1 ve nE xs
  d : vt.ownBlock = none ∨ vt.ownBlock ≠ ve.ownBlock
  b : Below N w W

section
variable {w W W' : World} {N : Nat} {vo vt vi ve : Value} {ops : List (Int × Int × Int)} {tI xI : Nat → Int} {en : Nat → Bool} {nT nE nX : Nat}

theorem LAt.lt (h : LAt w N vo vt vi ve ops tI xI en nT nE nX W) : N + 1 + 1 + 1 < W.heap.size := h.e.lt
theorem LAt.alloc (h : LAt w N vo vt vi ve ops tI xI en nT nE nX W) (o : Obj) : LAt w N vo vt vi ve ops tI xI en nT nE nX (W.alloc o) :=
  ⟨h.k.alloc o, h.t.alloc o, h.x.alloc o, h.e.alloc o, h.o0.alloc o, h.o1.imp fun _ hx => hx.alloc o, h.o2.imp fun _ hx => hx.alloc o, h.o3.imp fun _ hx => hx.alloc o, h.d, h.b.alloc (by have := h.lt; omega) o⟩

/-- a store below the rows -/
theorem low_own {base : Nat} {e : TypeId} {size n : Nat} {v : Value} {xs : List Value} {g : Nat} (h : W.ownsRow base e size v n xs) (hg : g < base) (j : Nat) (u : Value) : (W.setCell ⟨g, j, none⟩ u).ownsRow base e size v n xs := own_setOther h (a := ⟨g, j, none⟩) (own_ne_low h hg) u

theorem LAt.setT (h : LAt w N vo vt vi ve ops tI xI en nT nE nX W) (j : Nat) (v : Int) : LAt w N vo vt vi ve ops (putI tI j v) xI en nT nE nX (W.setCell ⟨N + 1, j, none⟩ (.int .i64 v)) :=
  ⟨h.k.setOther (by simp) _, by have := h.t.set j (.int .i64 v); rwa [icells_set] at this, h.x.setOther (by simp) _, h.e.setOther (by simp <;> omega) _, low_own h.o0 (by omega) _ _, h.o1.imp fun _ hx => low_own hx (by omega) _ _, h.o2.imp fun _ hx => low_own hx (by omega) _ _, h.o3.imp fun _ hx => low_own hx (by omega) _ _, h.d, h.b.setCell (p := ⟨N + 1, j, none⟩) (by simp) _⟩
theorem LAt.setX (h : LAt w N vo vt vi ve ops tI xI en nT nE nX W) (j : Nat) (v : Int) : LAt w N vo vt vi ve ops tI (putI xI j v) en nT nE nX (W.setCell ⟨N + 1 + 1, j, none⟩ (.int .i64 v)) :=
  ⟨h.k.setOther (by simp <;> omega) _, h.t.setOther (by simp) _, by have := h.x.set j (.int .i64 v); rwa [icells_set] at this, h.e.setOther (by simp) _, low_own h.o0 (by omega) _ _, h.o1.imp fun _ hx => low_own hx (by omega) _ _, h.o2.imp fun _ hx => low_own hx (by omega) _ _, h.o3.imp fun _ hx => low_own hx (by omega) _ _, h.d, h.b.setCell (p := ⟨N + 1 + 1, j, none⟩) (by simp <;> omega) _⟩
theorem LAt.setE (h : LAt w N vo vt vi ve ops tI xI en nT nE nX W) (j : Nat) (v : Bool) : LAt w N vo vt vi ve ops tI xI (putB en j v) nT nE nX (W.setCell ⟨N + 1 + 1 + 1, j, none⟩ (.bool v)) :=
  ⟨h.k.setOther (by simp <;> omega) _, h.t.setOther (by simp <;> omega) _, h.x.setOther (by simp) _, by have := h.e.set j (.bool v); rwa [ucells_set] at this, low_own h.o0 (by omega) _ _, h.o1.imp fun _ hx => low_own hx (by omega) _ _, h.o2.imp fun _ hx => low_own hx (by omega) _ _, h.o3.imp fun _ hx => low_own hx (by omega) _ _, h.d, h.b.setCell (p := ⟨N + 1 + 1 + 1, j, none⟩) (by simp <;> omega) _⟩

/-- what a growth of one row leaves standing -/
theorem LAt.grownK (h : LAt w N vo vt vi ve ops tI xI en nT nE nX W) {row : Option Nat} (hg : W.grownBy W' row) (hr : ∀ k, row = some k → N + 1 + 1 + 1 + 1 ≤ k) :
    Blk W' N 24 kcells ∧ Blk W' (N + 1) 25 (icells tI 4) ∧ Blk W' (N + 1 + 1) 26 (icells xI 3) ∧ Blk W' (N + 1 + 1 + 1) 27 (ucells en) ∧ Below N w W' :=
  ⟨h.k.grown hg (fun e => by have := hr _ e.symm; omega), h.t.grown hg (fun e => by have := hr _ e.symm; omega), h.x.grown hg (fun e => by have := hr _ e.symm; omega), h.e.grown hg (fun e => by have := hr _ e.symm; omega), h.b.grown hg (by have := h.lt; omega) (fun k e => by have := hr k e; omega)⟩

theorem LAt.d' (h : LAt w N vo vt vi ve ops tI xI en nT nE nX W) : ve.ownBlock = none ∨ ve.ownBlock ≠ vt.ownBlock := by
  rcases h.d with hd | hd
  · cases hv : ve.ownBlock with
    | none => exact .inl rfl
    | some k => exact .inr (by rw [hd]; simp)
  · exact .inr (Ne.symm hd)

theorem fresh_ne {base : Nat} {e : TypeId} {size n : Nat} {v : Value} {xs : List Value} (h : W.ownsRow base e size v n xs) {k : Nat} (hk : W.heap.size ≤ k) : some k ≠ v.ownBlock := by
  intro he
  obtain ⟨c, hc, _⟩ := own_blk h he.symm
  have := hc.lt
  omega

/-- 'txns = append(txns, ..)' -/
theorem LAt.appT (h : LAt w N vo vt vi ve ops tI xI en nT nE nX W) {o : Obj} {v1 : Value} {ys : List Value} (hn : W'.ownsRow (N + 1 + 1 + 1 + 1) 3 1 v1 (nT + 1) ys) (hg : (W.alloc o).grownBy W' vt.ownBlock) (hat : v1.ownBlock = vt.ownBlock ∨ v1.ownBlock = some (W.heap.size + 1)) :
    LAt w N vo v1 vi ve ops tI xI en (nT + 1) nE nX W' := by
  have h' := h.alloc o
  obtain ⟨x1, h1⟩ := h'.o1
  obtain ⟨x3, h3⟩ := h'.o3
  obtain ⟨x2, h2⟩ := h'.o2
  obtain ⟨k1, k2, k3, k4, k5⟩ := h'.grownK hg (fun k e => by obtain ⟨_, _, hb⟩ := own_blk h1 e; exact hb)
  refine ⟨k1, k2, k3, k4, h'.o0.kept hg (own_ne_own h'.o0 h1 (by decide)), ⟨ys, hn⟩, ⟨x2, h2.kept hg (own_ne_own h2 h1 (by decide))⟩, ⟨x3, h3.kept hg h.d'⟩, ?_, k5⟩
  rcases hat with e | e
  · rw [e]; exact h.d
  · obtain ⟨y3, g3⟩ := h.o3
    exact .inr (by rw [e]; exact fresh_ne g3 (Nat.le_succ _))

/-- 'end = append(end, ..)' -/
theorem LAt.appE (h : LAt w N vo vt vi ve ops tI xI en nT nE nX W) {o : Obj} {v1 : Value} {ys : List Value} (hn : W'.ownsRow (N + 1 + 1 + 1 + 1) 3 1 v1 (nE + 1) ys) (hg : (W.alloc o).grownBy W' ve.ownBlock) (hat : v1.ownBlock = ve.ownBlock ∨ v1.ownBlock = some (W.heap.size + 1)) :
    LAt w N vo vt vi v1 ops tI xI en nT (nE + 1) nX W' := by
  have h' := h.alloc o
  obtain ⟨x1, h1⟩ := h'.o1
  obtain ⟨x3, h3⟩ := h'.o3
  obtain ⟨x2, h2⟩ := h'.o2
  obtain ⟨k1, k2, k3, k4, k5⟩ := h'.grownK hg (fun k e => by obtain ⟨_, _, hb⟩ := own_blk h3 e; exact hb)
  refine ⟨k1, k2, k3, k4, h'.o0.kept hg (own_ne_own h'.o0 h3 (by decide)), ⟨x1, h1.kept hg h.d⟩, ⟨x2, h2.kept hg (own_ne_own h2 h3 (by decide))⟩, ⟨ys, hn⟩, ?_, k5⟩
  rcases hat with e | e
  · rw [e]; exact h.d
  · obtain ⟨y1, g1⟩ := h.o1
    exact .inr (by rw [e]; exact Ne.symm (fresh_ne g1 (Nat.le_succ _)))

/-- 'items = append(items, ..)' -/
theorem LAt.appI (h : LAt w N vo vt vi ve ops tI xI en nT nE nX W) {o : Obj} {v1 : Value} {ys : List Value} (hn : W'.ownsRow (N + 1 + 1 + 1 + 1) 9 1 v1 (nX + 1) ys) (hg : (W.alloc o).grownBy W' vi.ownBlock) :
    LAt w N vo vt v1 ve ops tI xI en nT nE (nX + 1) W' := by
  have h' := h.alloc o
  obtain ⟨x1, h1⟩ := h'.o1
  obtain ⟨x3, h3⟩ := h'.o3
  obtain ⟨x2, h2⟩ := h'.o2
  obtain ⟨k1, k2, k3, k4, k5⟩ := h'.grownK hg (fun k e => by obtain ⟨_, _, hb⟩ := own_blk h2 e; exact hb)
  exact ⟨k1, k2, k3, k4, h'.o0.kept hg (own_ne_own h'.o0 h2 (by decide)), ⟨x1, h1.kept hg (own_ne_own h1 h2 (by decide))⟩, ⟨ys, hn⟩, ⟨x3, h3.kept hg (own_ne_own h3 h2 (by decide))⟩, h.d, k5⟩

/-- 'ops = append(ops, ..)' -/
theorem LAt.appO (h : LAt w N vo vt vi ve ops tI xI en nT nE nX W) {o : Obj} {v1 : Value} {a b c : Int} (hn : W'.ownsRow (N + 1 + 1 + 1 + 1) 34 3 v1 (ops.length + 1) (opCells ops ++ [.int .u8 a, .int .i64 b, .int .i64 c])) (hg : (W.alloc o).grownBy W' vo.ownBlock) :
    LAt w N v1 vt vi ve (ops ++ [(a, b, c)]) tI xI en nT nE nX W' := by
  have h' := h.alloc o
  obtain ⟨x1, h1⟩ := h'.o1
  obtain ⟨x3, h3⟩ := h'.o3
  obtain ⟨x2, h2⟩ := h'.o2
  obtain ⟨k1, k2, k3, k4, k5⟩ := h'.grownK hg (fun k e => by obtain ⟨_, _, hb⟩ := own_blk h'.o0 e; exact hb)
  exact ⟨k1, k2, k3, k4, by rw [opCells_snoc]; simpa using hn, ⟨x1, h1.kept hg (own_ne_own h1 h'.o0 (by decide))⟩, ⟨x2, h2.kept hg (own_ne_own h2 h'.o0 (by decide))⟩, ⟨x3, h3.kept hg (own_ne_own h3 h'.o0 (by decide))⟩, h.d, k5⟩

/-- 'end[t] = ..' -/
theorem LAt.setEnd {g n cap : Nat} (h : LAt w N vo vt vi (.slice (some ⟨g, 0, none⟩) n cap) ops tI xI en nT nE nX W) (hn : n = nE) (j : Nat) (v : Value) : LAt w N vo vt vi (.slice (some ⟨g, 0, none⟩) n cap) ops tI xI en nT nE nX (W.setCell ⟨g, j, none⟩ v) := by
  subst hn
  obtain ⟨x1, h1⟩ := h.o1
  obtain ⟨x3, h3⟩ := h.o3
  obtain ⟨x2, h2⟩ := h.o2
  obtain ⟨cur, hgb, hge⟩ := own_blk h3 (k := g) rfl
  obtain ⟨hst, hg⟩ := h3.stored j v
  obtain ⟨k1, k2, k3, k4, k5⟩ := h.grownK hg (fun k e => by cases e; exact hge)
  exact ⟨k1, k2, k3, k4, h.o0.kept hg (own_ne_own h.o0 h3 (by decide)), ⟨x1, h1.kept hg h.d⟩, ⟨x2, h2.kept hg (own_ne_own h2 h3 (by decide))⟩, ⟨_, hst⟩, h.d, k5⟩
end
end Go.Proofs.Ybulkri.A
