/-
  LawS0034AModel: CheckLocks' variables in memory.
-/
import Derived.Test.YbulkriAHold
namespace Go.Proofs.Ybulkri.A
open Go.RowKit
set_option linter.unusedVariables false
set_option linter.unusedSimpArgs false

def bools (u : Nat → Bool) (n : Nat) : Array Value := ((List.range n).map fun j => Value.bool (u j)).toArray
theorem bools_get (f : Nat → Bool) {n j : Nat} (h : j < n) : (bools f n)[j]? = some (.bool (f j)) := by simp [bools, h]
theorem bools_set (f : Nat → Bool) {n j : Nat} (v : Bool) : (bools f n).setIfInBounds j (.bool v) = bools (putB f j v) n := by
  apply Array.ext
  · simp [bools]
  · intro i h1 h2
    rw [Array.getElem_setIfInBounds (by simpa using h1)]
    simp only [bools, List.getElem_toArray, List.getElem_map, List.getElem_range, putB]
    by_cases e : j = i
    · rw [if_pos e, if_pos e.symm]
    · rw [if_neg e, if_neg (Ne.symm e)]

theorem info61 : (Yba.prog.info? 61).map (fun i => (i.zero, i.size, i.bytes)) = some (some (.int .u8 0), 1, 1) := by kernel_rfl
theorem info4 : (Yba.prog.info? 4).map (fun i => (i.zero, i.size, i.bytes)) = some (some (.bool false), 1, 1) := by kernel_rfl

theorem make_modes (L : Nat) (hL : L ≤ 100000) : ∀ w : World, (Instr.makeSlice 59 (.int .i64 (L : Int)) (.int .i64 (L : Int))).run Yba.prog w = .ok (.slice (some ⟨w.heap.size, 0, none⟩) L L) (w.alloc (.cells (rowU (fun _ => 0) L) 61)) := by
  obtain ⟨i, hi, h0, h1, h2⟩ := info_parts info61
  intro w
  have := run_make (P := Yba.prog) w 59 61 i _ Yba.underlying59 hi h0 .i64 .i64 (L : Int) (L : Int) (by omega) (by omega) (by rw [h2]; omega) (by omega)
  rw [this, h1]
  have hm : madeCells (Value.int .u8 0).cells ((L : Int).toNat * 1) = rowU (fun _ => 0) L := by
    apply Array.ext
    · simp [madeCells, rowU]
    · intro j h1 h2
      simp [madeCells, Value.cells, Nat.mod_one, rowU]
  rw [hm]
  rfl

theorem make_bools (L : Nat) (hL : L ≤ 100000) : ∀ w : World, (Instr.makeSlice 60 (.int .i64 (L : Int)) (.int .i64 (L : Int))).run Yba.prog w = .ok (.slice (some ⟨w.heap.size, 0, none⟩) L L) (w.alloc (.cells (bools (fun _ => false) L) 4)) := by
  obtain ⟨i, hi, h0, h1, h2⟩ := info_parts info4
  intro w
  have := run_make (P := Yba.prog) w 60 4 i _ Yba.underlying60 hi h0 .i64 .i64 (L : Int) (L : Int) (by omega) (by omega) (by rw [h2]; omega) (by omega)
  rw [this, h1]
  have hm : madeCells (Value.bool false).cells ((L : Int).toNat * 1) = bools (fun _ => false) L := by
    apply Array.ext
    · simp [madeCells, bools]
    · intro j h1 h2
      simp [madeCells, Value.cells, Nat.mod_one, bools]
  rw [hm]
  rfl

theorem rowI_zero (n : Nat) : Array.replicate n (Value.int .i64 0) = rowI (fun _ => 0) n := by
  apply Array.ext
  · simp [rowI]
  · intro j h1 h2
    simp [rowI]

/-- the table's blocks, untouched -/
structure Fr (lo H : Nat) (Wt W : World) : Prop where
  size : H ≤ W.heap.size
  block : ∀ k, lo ≤ k → k < H → W.heap[k]? = Wt.heap[k]?

section
variable {lo H : Nat} {Wt W W' : World}
theorem Fr.alloc (h : Fr lo H Wt W) (o : Obj) : Fr lo H Wt (W.alloc o) := ⟨by have := h.size; simp; omega, fun k h1 h2 => by rw [Below.heap_alloc _ _ _ (by have := h.size; omega)]; exact h.block k h1 h2⟩
theorem Fr.set (h : Fr lo H Wt W) (p : Addr) (hp : p.block < lo ∨ H ≤ p.block) (v : Value) : Fr lo H Wt (W.setCell p v) :=
  ⟨by have := h.size; simpa [World.setCell] using this, fun k h1 h2 => by rw [Below.heap_setCell _ _ _ _ (by omega)]; exact h.block k h1 h2⟩
theorem Fr.below (h : Fr lo H Wt W) (hb : Below W.heap.size W W') : Fr lo H Wt W' :=
  ⟨by have := h.size; have := hb.size; omega, fun k h1 h2 => by rw [hb.block k (by have := h.size; omega)]; exact h.block k h1 h2⟩
theorem Fr.kept3 {a b c : Nat} (h : Fr lo H Wt W) (hk : Kept3 a b c W W') (h1 : H ≤ a) (h2 : H ≤ b) (h3 : H ≤ c) : Fr lo H Wt W' :=
  ⟨by rw [hk.size]; exact h.size, fun k l1 l2 => by rw [hk.block k (by omega) (by omega) (by omega)]; exact h.block k l1 l2⟩
theorem Fr.cell (h : Fr lo H Wt W) (p : Addr) (h1 : lo ≤ p.block) (h2 : p.block < H) : W.cell? p = Wt.cell? p := World.cell?_of_block (w := Wt) (h.block p.block h1 h2)
theorem Fr.spAt {g0 : Nat} {L : List (Nat × Nat)} (h : Fr lo H Wt W) (hs : SpAt Wt H (some ⟨g0, 0, none⟩) L) (hg : lo ≤ g0) : SpAt W W.heap.size (some ⟨g0, 0, none⟩) L := by
  intro h0
  obtain ⟨g, e, hgH, hc⟩ := hs h0
  obtain rfl : g = g0 := by simpa using e.symm
  refine ⟨g, rfl, by have := h.size; omega, fun k hk => ?_⟩
  obtain ⟨c0, c1, a, b, c, d, c2, c3, c4, c5⟩ := hc k hk
  exact ⟨(h.cell ⟨g, _, none⟩ hg hgH).trans c0, (h.cell ⟨g, _, none⟩ hg hgH).trans c1, a, b, c, d, (h.cell ⟨g, _, none⟩ hg hgH).trans c2, (h.cell ⟨g, _, none⟩ hg hgH).trans c3, (h.cell ⟨g, _, none⟩ hg hgH).trans c4, (h.cell ⟨g, _, none⟩ hg hgH).trans c5⟩
theorem Fr.gAt {n : Nat} {xs : List (Nat × Nat)} {gs : Nat} {av : Option Addr} {st vs : List Int} (h : Fr lo Wt.heap.size Wt W) (hg : GAt Wt lo n xs gs av st vs) : GAt W lo n xs gs av st vs :=
  ⟨by unfold IRow Blk; rw [h.block gs hg.le hg.lt]; exact hg.row, hg.le, hg.grp, by
    rcases hg.vals with e | ⟨gv, e, hr, hl⟩
    · exact .inl e
    · exact .inr ⟨gv, e, by unfold IRow Blk; rw [h.block gv hl hr.blk.lt]; exact hr, hl⟩⟩
end

/-- where CheckLocks' blocks lie -/
structure Pl (N H Bt gm Bm gsh Bs gex Bx gu : Nat) : Prop where
  a : N + 1 + 1 ≤ H
  b : H ≤ Bt
  c : Bt < gm
  d : gm < Bm
  e : Bm < gsh
  f : gsh < Bs
  g : Bs < gex
  h : gex < Bx
  i : Bx < gu

/-- CheckLocks' variables -/
structure CK (w Wt : World) (N H Bt gm Bm gsh Bs gex Bx gu nk nT nX : Nat) (tc : Array Value) (md sh ex : Nat → Int) (u : Nat → Bool) (f : Nat → Int) (W : World) : Prop where
  r : Blk W N 40 (fcells fun _ => 0)
  c : Blk W (N + 1) 40 (fcells f)
  t : Blk W Bt 56 tc
  bm : Blk W Bm 59 #[.slice (some ⟨gm, 0, none⟩) nk nk]
  bs : Blk W Bs 29 #[.slice (some ⟨gsh, 0, none⟩) nX nX]
  bx : Blk W Bx 29 #[.slice (some ⟨gex, 0, none⟩) nX nX]
  cl : CL W gm gsh gex nk nX md sh ex
  un : Blk W gu 4 (bools u nT)
  fr : Fr (N + 1 + 1) H Wt W
  b : Below N w W

section
variable {w Wt W W' : World} {N H Bt gm Bm gsh Bs gex Bx gu nk nT nX : Nat} {tc : Array Value} {md sh ex : Nat → Int} {u : Nat → Bool} {f : Nat → Int}

theorem CK.lt (h : CK w Wt N H Bt gm Bm gsh Bs gex Bx gu nk nT nX tc md sh ex u f W) : gu < W.heap.size := h.un.lt
theorem CK.alloc (h : CK w Wt N H Bt gm Bm gsh Bs gex Bx gu nk nT nX tc md sh ex u f W) (o : Obj) : CK w Wt N H Bt gm Bm gsh Bs gex Bx gu nk nT nX tc md sh ex u f (W.alloc o) :=
  ⟨h.r.alloc o, h.c.alloc o, h.t.alloc o, h.bm.alloc o, h.bs.alloc o, h.bx.alloc o, h.cl.alloc o, h.un.alloc o, h.fr.alloc o, h.b.alloc (Nat.le_of_lt h.r.lt) o⟩
theorem CL.below (h : CL W gm gsh gex nk nX md sh ex) (hb : Below W.heap.size W W') : CL W' gm gsh gex nk nX md sh ex := ⟨h.m.below hb h.m.lt, h.s.below hb h.s.lt, h.x.below hb h.x.lt, h.ne⟩
theorem CK.below (h : CK w Wt N H Bt gm Bm gsh Bs gex Bx gu nk nT nX tc md sh ex u f W) (hb : Below W.heap.size W W') : CK w Wt N H Bt gm Bm gsh Bs gex Bx gu nk nT nX tc md sh ex u f W' :=
  ⟨h.r.below hb h.r.lt, h.c.below hb h.c.lt, h.t.below hb h.t.lt, h.bm.below hb h.bm.lt, h.bs.below hb h.bs.lt, h.bx.below hb h.bx.lt, h.cl.below hb, h.un.below hb h.un.lt, h.fr.below hb, h.b.trans (hb.mono (Nat.le_of_lt h.r.lt))⟩
theorem CK.drew (h : CK w Wt N H Bt gm Bm gsh Bs gex Bx gu nk nT nX tc md sh ex u f W) : CK w Wt N H Bt gm Bm gsh Bs gex Bx gu nk nT nX tc md sh ex u f W.drew :=
  h.below (Below.refl _ _).drew
theorem CL.setOther (h : CL W gm gsh gex nk nX md sh ex) (p : Addr) (h1 : gm ≠ p.block) (h2 : gsh ≠ p.block) (h3 : gex ≠ p.block) (v : Value) : CL (W.setCell p v) gm gsh gex nk nX md sh ex := ⟨h.m.setOther h1 v, h.s.setOther h2 v, h.x.setOther h3 v, h.ne⟩
theorem CK.setC (p : Pl N H Bt gm Bm gsh Bs gex Bx gu) (h : CK w Wt N H Bt gm Bm gsh Bs gex Bx gu nk nT nX tc md sh ex u f W) (j : Nat) (v : Int) : CK w Wt N H Bt gm Bm gsh Bs gex Bx gu nk nT nX tc md sh ex u (putI f j v) (W.setCell ⟨N + 1, j, none⟩ (.int .i64 v)) := by
  obtain ⟨p1, p2, p3, p4, p5, p6, p7, p8, p9⟩ := p
  refine ⟨h.r.setOther (by show N ≠ N + 1; omega) _, by have := h.c.set j (.int .i64 v); rwa [fcells_set] at this, h.t.setOther (by show _ ≠ N + 1; omega) _, h.bm.setOther (by show _ ≠ N + 1; omega) _, h.bs.setOther (by show _ ≠ N + 1; omega) _, h.bx.setOther (by show _ ≠ N + 1; omega) _, h.cl.setOther _ (by show _ ≠ N + 1; omega) (by show _ ≠ N + 1; omega) (by show _ ≠ N + 1; omega) _, h.un.setOther (by show _ ≠ N + 1; omega) _, h.fr.set ⟨N + 1, j, none⟩ (.inl (by show N + 1 < N + 1 + 1; omega)) _, h.b.setCell (p := ⟨N + 1, j, none⟩) (by show N ≤ N + 1; omega) _⟩
theorem CK.setU (p : Pl N H Bt gm Bm gsh Bs gex Bx gu) (h : CK w Wt N H Bt gm Bm gsh Bs gex Bx gu nk nT nX tc md sh ex u f W) (j : Nat) (v : Bool) : CK w Wt N H Bt gm Bm gsh Bs gex Bx gu nk nT nX tc md sh ex (putB u j v) f (W.setCell ⟨gu, j, none⟩ (.bool v)) := by
  obtain ⟨p1, p2, p3, p4, p5, p6, p7, p8, p9⟩ := p
  refine ⟨h.r.setOther (by show N ≠ gu; omega) _, h.c.setOther (by show _ ≠ gu; omega) _, h.t.setOther (by show _ ≠ gu; omega) _, h.bm.setOther (by show _ ≠ gu; omega) _, h.bs.setOther (by show _ ≠ gu; omega) _, h.bx.setOther (by show _ ≠ gu; omega) _, h.cl.setOther _ (by show _ ≠ gu; omega) (by show _ ≠ gu; omega) (by show _ ≠ gu; omega) _, by have := h.un.set j (.bool v); rwa [bools_set] at this, h.fr.set ⟨gu, j, none⟩ (.inr (by show H ≤ gu; omega)) _, h.b.setCell (p := ⟨gu, j, none⟩) (by show N ≤ gu; omega) _⟩
theorem CK.setO (p : Pl N H Bt gm Bm gsh Bs gex Bx gu) (h : CK w Wt N H Bt gm Bm gsh Bs gex Bx gu nk nT nX tc md sh ex u f W) (B j : Nat) (hB : gu < B) (v : Value) : CK w Wt N H Bt gm Bm gsh Bs gex Bx gu nk nT nX tc md sh ex u f (W.setCell ⟨B, j, none⟩ v) := by
  obtain ⟨p1, p2, p3, p4, p5, p6, p7, p8, p9⟩ := p
  refine ⟨h.r.setOther (by show N ≠ B; omega) _, h.c.setOther (by show _ ≠ B; omega) _, h.t.setOther (by show _ ≠ B; omega) _, h.bm.setOther (by show _ ≠ B; omega) _, h.bs.setOther (by show _ ≠ B; omega) _, h.bx.setOther (by show _ ≠ B; omega) _, h.cl.setOther _ (by show _ ≠ B; omega) (by show _ ≠ B; omega) (by show _ ≠ B; omega) _, h.un.setOther (by show _ ≠ B; omega) _, h.fr.set ⟨B, j, none⟩ (.inr (by show H ≤ B; omega)) _, h.b.setCell (p := ⟨B, j, none⟩) (by show N ≤ B; omega) _⟩
theorem CK.congrF {f' : Nat → Int} (h : CK w Wt N H Bt gm Bm gsh Bs gex Bx gu nk nT nX tc md sh ex u f W) (hf : ∀ r, r < 6 → f r = f' r) : CK w Wt N H Bt gm Bm gsh Bs gex Bx gu nk nT nX tc md sh ex u f' W :=
  ⟨h.r, by have := h.c; rwa [fcells_congr hf] at this, h.t, h.bm, h.bs, h.bx, h.cl, h.un, h.fr, h.b⟩
theorem CK.held {md' sh' ex' : Nat → Int} (p : Pl N H Bt gm Bm gsh Bs gex Bx gu) (h : CK w Wt N H Bt gm Bm gsh Bs gex Bx gu nk nT nX tc md sh ex u f W) (hk : Kept3 gm gsh gex W W') (hc : CL W' gm gsh gex nk nX md' sh' ex') : CK w Wt N H Bt gm Bm gsh Bs gex Bx gu nk nT nX tc md' sh' ex' u f W' := by
  obtain ⟨p1, p2, p3, p4, p5, p6, p7, p8, p9⟩ := p
  exact ⟨hk.blk h.r (by omega) (by omega) (by omega), hk.blk h.c (by omega) (by omega) (by omega), hk.blk h.t (by omega) (by omega) (by omega), hk.blk h.bm (by omega) (by omega) (by omega), hk.blk h.bs (by omega) (by omega) (by omega), hk.blk h.bx (by omega) (by omega) (by omega), hc, hk.blk h.un (by omega) (by omega) (by omega), h.fr.kept3 hk (by omega) (by omega) (by omega), hk.below h.b (by omega) (by omega) (by omega)⟩
end

theorem cnt_le (p : Nat → Bool) (n : Nat) : cnt p n ≤ n := by
  induction n with
  | zero => simp [cnt]
  | succ n ih => simp only [cnt]; split <;> omega

/-- the spans' transactions and items -/
def txL (L : List (Nat × Nat)) (k : Nat) : Nat := (L.getD k (0, 0)).1
def itL (L : List (Nat × Nat)) (k : Nat) : Nat := (L.getD k (0, 0)).2

/-- CheckLocks' variables, beside the model's locks -/
def CKR (w Wt : World) (N H Bt gm Bm gsh Bs gex Bx gu nT nX : Nat) (L : List (Nat × Nat)) (tc : Array Value) (m : Nat → Nat → Int) (u : Nat → Bool) (f : Nat → Int) (W : World) : Prop :=
  ∃ md sh ex, CK w Wt N H Bt gm Bm gsh Bs gex Bx gu L.length nT nX tc md sh ex u f W ∧ Rel L.length nT nX (txL L) (itL L) m md sh ex

section
variable {w Wt W W' : World} {N H Bt gm Bm gsh Bs gex Bx gu nT nX : Nat} {L : List (Nat × Nat)} {tc : Array Value} {m m' : Nat → Nat → Int} {u : Nat → Bool} {f : Nat → Int}

theorem CKR.alloc (h : CKR w Wt N H Bt gm Bm gsh Bs gex Bx gu nT nX L tc m u f W) (o : Obj) : CKR w Wt N H Bt gm Bm gsh Bs gex Bx gu nT nX L tc m u f (W.alloc o) := by
  obtain ⟨md, sh, ex, h1, h2⟩ := h
  exact ⟨md, sh, ex, h1.alloc o, h2⟩
theorem CKR.below (h : CKR w Wt N H Bt gm Bm gsh Bs gex Bx gu nT nX L tc m u f W) (hb : Below W.heap.size W W') : CKR w Wt N H Bt gm Bm gsh Bs gex Bx gu nT nX L tc m u f W' := by
  obtain ⟨md, sh, ex, h1, h2⟩ := h
  exact ⟨md, sh, ex, h1.below hb, h2⟩
theorem CKR.setC (p : Pl N H Bt gm Bm gsh Bs gex Bx gu) (h : CKR w Wt N H Bt gm Bm gsh Bs gex Bx gu nT nX L tc m u f W) (j : Nat) (v : Int) : CKR w Wt N H Bt gm Bm gsh Bs gex Bx gu nT nX L tc m u (putI f j v) (W.setCell ⟨N + 1, j, none⟩ (.int .i64 v)) := by
  obtain ⟨md, sh, ex, h1, h2⟩ := h
  exact ⟨md, sh, ex, h1.setC p j v, h2⟩
theorem CKR.setU (p : Pl N H Bt gm Bm gsh Bs gex Bx gu) (h : CKR w Wt N H Bt gm Bm gsh Bs gex Bx gu nT nX L tc m u f W) (j : Nat) (v : Bool) : CKR w Wt N H Bt gm Bm gsh Bs gex Bx gu nT nX L tc m (putB u j v) f (W.setCell ⟨gu, j, none⟩ (.bool v)) := by
  obtain ⟨md, sh, ex, h1, h2⟩ := h
  exact ⟨md, sh, ex, h1.setU p j v, h2⟩
theorem CKR.setO (p : Pl N H Bt gm Bm gsh Bs gex Bx gu) (h : CKR w Wt N H Bt gm Bm gsh Bs gex Bx gu nT nX L tc m u f W) (B j : Nat) (hB : gu < B) (v : Value) : CKR w Wt N H Bt gm Bm gsh Bs gex Bx gu nT nX L tc m u f (W.setCell ⟨B, j, none⟩ v) := by
  obtain ⟨md, sh, ex, h1, h2⟩ := h
  exact ⟨md, sh, ex, h1.setO p B j hB v, h2⟩
theorem CKR.congrF {f' : Nat → Int} (h : CKR w Wt N H Bt gm Bm gsh Bs gex Bx gu nT nX L tc m u f W) (hf : ∀ r, r < 6 → f r = f' r) : CKR w Wt N H Bt gm Bm gsh Bs gex Bx gu nT nX L tc m u f' W := by
  obtain ⟨md, sh, ex, h1, h2⟩ := h
  exact ⟨md, sh, ex, h1.congrF hf, h2⟩
theorem CKR.congrM (ht : Tab L.length nT nX (txL L) (itL L)) (h : CKR w Wt N H Bt gm Bm gsh Bs gex Bx gu nT nX L tc m u f W) (hm : ∀ t x, t < nT → x < nX → m t x = m' t x) : CKR w Wt N H Bt gm Bm gsh Bs gex Bx gu nT nX L tc m' u f W := by
  obtain ⟨md, sh, ex, h1, h2⟩ := h
  exact ⟨md, sh, ex, h1, h2.congr ht hm⟩
theorem CKR.lt (h : CKR w Wt N H Bt gm Bm gsh Bs gex Bx gu nT nX L tc m u f W) : gu < W.heap.size := by
  obtain ⟨md, sh, ex, h1, h2⟩ := h
  exact h1.lt
theorem CKR.b (h : CKR w Wt N H Bt gm Bm gsh Bs gex Bx gu nT nX L tc m u f W) : Below N w W := by
  obtain ⟨md, sh, ex, h1, h2⟩ := h
  exact h1.b
theorem CKR.fr (h : CKR w Wt N H Bt gm Bm gsh Bs gex Bx gu nT nX L tc m u f W) : Fr (N + 1 + 1) H Wt W := by
  obtain ⟨md, sh, ex, h1, h2⟩ := h
  exact h1.fr
theorem CKR.t (h : CKR w Wt N H Bt gm Bm gsh Bs gex Bx gu nT nX L tc m u f W) : Blk W Bt 56 tc := by
  obtain ⟨md, sh, ex, h1, h2⟩ := h
  exact h1.t
theorem CKR.bm (h : CKR w Wt N H Bt gm Bm gsh Bs gex Bx gu nT nX L tc m u f W) : Blk W Bm 59 #[.slice (some ⟨gm, 0, none⟩) L.length L.length] := by
  obtain ⟨md, sh, ex, h1, h2⟩ := h
  exact h1.bm
theorem CKR.mode (h : CKR w Wt N H Bt gm Bm gsh Bs gex Bx gu nT nX L tc m u f W) {k : Nat} (hk : k < L.length) : W.cell? ⟨gm, k, none⟩ = some (.int .u8 (m (txL L k) (itL L k))) := by
  obtain ⟨md, sh, ex, h1, h2⟩ := h
  rw [← h2.md k hk]
  exact h1.cl.m.cellOf (rowU_get md hk)
theorem CKR.c (h : CKR w Wt N H Bt gm Bm gsh Bs gex Bx gu nT nX L tc m u f W) : Blk W (N + 1) 40 (fcells f) := by
  obtain ⟨md, sh, ex, h1, h2⟩ := h
  exact h1.c
theorem CKR.r (h : CKR w Wt N H Bt gm Bm gsh Bs gex Bx gu nT nX L tc m u f W) : Blk W N 40 (fcells fun _ => 0) := by
  obtain ⟨md, sh, ex, h1, h2⟩ := h
  exact h1.r
theorem CKR.un (h : CKR w Wt N H Bt gm Bm gsh Bs gex Bx gu nT nX L tc m u f W) : Blk W gu 4 (bools u nT) := by
  obtain ⟨md, sh, ex, h1, h2⟩ := h
  exact h1.un
/-- what others hold of the item, exclusively -/
theorem CKR.ex (ht : Tab L.length nT nX (txL L) (itL L)) (h : CKR w Wt N H Bt gm Bm gsh Bs gex Bx gu nT nX L tc m u f W) {k x : Nat} (hk : k < L.length) (hx : itL L k = x) : ∃ q : Int, W.cell? ⟨Bx, 0, none⟩ = some (.slice (some ⟨gex, 0, none⟩) nX nX) ∧ W.cell? ⟨gex, x, none⟩ = some (.int .i64 q) ∧ (0 ≤ q ∧ q ≤ nT) ∧
    decide (0 < q - (if m (txL L k) x = 2 then 1 else 0)) = other nT m (txL L k) x 2 2 := by
  obtain ⟨md, sh, ex, h1, h2⟩ := h
  subst hx
  refine ⟨ex (itL L k), h1.bx.cellOf rfl, h1.cl.x.cellOf (rowI_get ex (ht.ilt k hk)), ?_, ?_⟩
  · rw [h2.ex _ (ht.ilt k hk)]
    exact ⟨cnt_nonneg _ _, cnt_le _ _⟩
  · rw [← h2.md k hk]
    exact h2.othersEx ht hk
/-- what others hold of the item -/
theorem CKR.all (ht : Tab L.length nT nX (txL L) (itL L)) (h : CKR w Wt N H Bt gm Bm gsh Bs gex Bx gu nT nX L tc m u f W) {k x : Nat} (hk : k < L.length) (hx : itL L k = x) (h3 : m (txL L k) x = 0 ∨ m (txL L k) x = 1 ∨ m (txL L k) x = 2) :
    ∃ q q' : Int, W.cell? ⟨Bx, 0, none⟩ = some (.slice (some ⟨gex, 0, none⟩) nX nX) ∧ W.cell? ⟨Bs, 0, none⟩ = some (.slice (some ⟨gsh, 0, none⟩) nX nX) ∧ W.cell? ⟨gsh, x, none⟩ = some (.int .i64 q) ∧ W.cell? ⟨gex, x, none⟩ = some (.int .i64 q') ∧ (0 ≤ q ∧ q ≤ nT) ∧ (0 ≤ q' ∧ q' ≤ nT) ∧
    decide (0 < q + q' - (if m (txL L k) x ≠ 0 then 1 else 0)) = other nT m (txL L k) x 1 2 := by
  obtain ⟨md, sh, ex, h1, h2⟩ := h
  subst hx
  refine ⟨sh (itL L k), ex (itL L k), h1.bx.cellOf rfl, h1.bs.cellOf rfl, h1.cl.s.cellOf (rowI_get sh (ht.ilt k hk)), h1.cl.x.cellOf (rowI_get ex (ht.ilt k hk)), ?_, ?_, ?_⟩
  · rw [h2.sh _ (ht.ilt k hk)]
    exact ⟨cnt_nonneg _ _, cnt_le _ _⟩
  · rw [h2.ex _ (ht.ilt k hk)]
    exact ⟨cnt_nonneg _ _, cnt_le _ _⟩
  · rw [← h2.md k hk]
    rw [← h2.md k hk] at h3
    exact h2.othersAll ht hk h3

/-- 'hold(k, v)' -/
theorem CKR.hold {g0 M : Nat} (p : Pl N H Bt gm Bm gsh Bs gex Bx gu) (ht : Tab L.length nT nX (txL L) (itL L)) (hs : SpAt Wt H (some ⟨g0, 0, none⟩) L) (hg : N + 1 + 1 ≤ g0) (htc : tc[0]? = some (.slice (some ⟨g0, 0, none⟩) L.length M)) (hl : L.length ≤ 4096) (hX : nX ≤ 4096) (hT : nT ≤ 1024)
    (h : CKR w Wt N H Bt gm Bm gsh Bs gex Bx gu nT nX L tc m u f W) {k t x : Nat} (hk : k < L.length) (hkt : txL L k = t) (hkx : itL L k = x) (v : Int) (hv : v = 0 ∨ v = 1 ∨ v = 2 ∨ v = 3) (hm : 0 ≤ m t x ∧ m t x ≤ 3) :
    Calls Yba.prog 15 #[.int .i64 k, .int .u8 v, .pointer (some ⟨Bt, 0, none⟩), .pointer (some ⟨Bm, 0, none⟩), .pointer (some ⟨Bs, 0, none⟩), .pointer (some ⟨Bx, 0, none⟩)] W fun e w' => (∃ z, e = .returned z) ∧ CKR w Wt N H Bt gm Bm gsh Bs gex Bx gu nT nX L tc (put m t x v) u f w' ∧
      ∀ g e cur, gu < g → Blk W g e cur → Blk w' g e cur := by
  obtain ⟨md, sh, ex, h1, h2⟩ := h
  subst hkt
  subst hkx
  have hb1 := h2.sh _ (ht.ilt k hk)
  have hb2 := h2.ex _ (ht.ilt k hk)
  have hc1 := cnt_nonneg (fun u => decide (m u (itL L k) = 1)) nT
  have hc2 := cnt_nonneg (fun u => decide (m u (itL L k) = 2)) nT
  have hc3 := cnt_le (fun u => decide (m u (itL L k) = 1)) nT
  have hc4 := cnt_le (fun u => decide (m u (itL L k) = 2)) nT
  have hmd := h2.md k hk
  refine (hold_any (N := W.heap.size) rfl hl hX (h1.t.cellOf htc) (h1.fr.spAt hs hg) h1.bm h1.bs h1.bx h1.cl hk (x := itL L k) rfl (ht.ilt k hk) v hv (by rw [hmd]; omega) (by omega) (by omega)).mono ?_
  rintro e w' ⟨he, hk3, hcl⟩
  refine ⟨he, ⟨_, _, _, h1.held p hk3 hcl, ?_⟩, fun g e cur hgg hb => hk3.blk hb ?_ ?_ ?_⟩
  · exact h2.hold ht hk v
  · obtain ⟨p1, p2, p3, p4, p5, p6, p7, p8, p9⟩ := p; omega
  · obtain ⟨p1, p2, p3, p4, p5, p6, p7, p8, p9⟩ := p; omega
  · obtain ⟨p1, p2, p3, p4, p5, p6, p7, p8, p9⟩ := p; omega
end

theorem part_put {m : Nat → Nat → Int} {it : Nat → Nat} {t k x : Nat} {ks : List Nat} (hx : it k = x) (hm : m t x ≠ 0) : ∀ t' x', put (part m it t ks) t x 3 t' x' = part m it t (ks ++ [k]) t' x' := by
  intro t' x'
  subst hx
  unfold put part
  by_cases e : t' = t ∧ x' = it k
  · obtain ⟨rfl, rfl⟩ := e
    simp [hm]
  · rw [if_neg e]
    by_cases e1 : t' = t
    · have e2 : ¬ it k = x' := fun c => e ⟨e1, c.symm⟩
      simp [e2]
    · simp [e1]
theorem part_keep {m : Nat → Nat → Int} {it : Nat → Nat} {t k x : Nat} {ks : List Nat} (hx : it k = x) (hm : m t x = 0) : ∀ t' x', part m it t ks t' x' = part m it t (ks ++ [k]) t' x' := by
  intro t' x'
  subst hx
  unfold part
  by_cases e1 : t' = t
  · subst e1
    by_cases e2 : it k = x'
    · subst e2
      simp [hm]
    · simp [e2]
  · simp [e1]
theorem part_range {m : Nat → Nat → Int} {it : Nat → Nat} {t : Nat} {ks : List Nat} (hm : ∀ t x, 0 ≤ m t x ∧ m t x ≤ 3) (t' x' : Nat) : 0 ≤ part m it t ks t' x' ∧ part m it t ks t' x' ≤ 3 := by
  unfold part
  split
  · omega
  · exact hm t' x'
theorem part_all {nT nX : Nat} {L : List (Nat × Nat)} {m : Nat → Nat → Int} {md sh ex : Nat → Int} {t : Nat} (ht : Tab L.length nT nX (txL L) (itL L)) (h : Rel L.length nT nX (txL L) (itL L) (part m (itL L) t (ownOf L t)) md sh ex) :
    Rel L.length nT nX (txL L) (itL L) (fun t' x' => if t' = t ∧ x' < nX ∧ m t' x' ≠ 0 then 3 else m t' x') md sh ex :=
  h.endAll ht fun k hk htk => mem_ownOf.2 ⟨hk, htk⟩
end Go.Proofs.Ybulkri.A
