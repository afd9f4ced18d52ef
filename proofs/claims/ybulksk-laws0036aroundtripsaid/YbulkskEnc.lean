/-
  'enc := make([]byte, 0, n); enc = append(enc, ..)': a row of bytes that the call fills within its capacity.
-/
import Derived.Test.YbulkskProg
import Derived.Test.YbulkskHeap
import Derived.Test.YbulkskPlain
import Derived.KernelRfl
import Derived.Deep.Draws
namespace Go.Proofs.Ybulksk
open Go.RowKit

theorem info5 : (Yba.prog.info? 5).map (fun i => (i.zero, i.size, i.bytes)) = some (some (.int .u8 0), 1, 1) := by kernel_rfl

/-- The row at block g holds the bytes bs; below the call's own blocks all is as it was. -/
structure EncAt (w0 w : World) (g cap : Nat) (bs : List Int) : Prop where
  own : w.ownsRow w0.heap.size 5 1 (.slice (some ⟨g, 0, none⟩) bs.length cap) bs.length (bs.map (Value.int .u8))
  bel : Below w0.heap.size w0 w

theorem EncAt.le {w0 w : World} {g cap : Nat} {bs : List Int} (h : EncAt w0 w g cap bs) : w0.heap.size ≤ g ∧ g < w.heap.size := h.own.lt g rfl

theorem EncAt.cell {w0 w : World} {g cap : Nat} {bs : List Int} (h : EncAt w0 w g cap bs) {j : Nat} (hj : j < bs.length) : w.cell? ⟨g, j, none⟩ = some (.int .u8 (bs.getD j 0)) := by
  rw [h.own.cellAt j (by omega)]
  simp [List.getElem?_eq_getElem hj]

theorem EncAt.alloc {w0 w : World} {g cap : Nat} {bs : List Int} (h : EncAt w0 w g cap bs) (o : Obj) : EncAt w0 (w.alloc o) g cap bs := ⟨h.own.alloc o, h.bel.alloc h.bel.size o⟩

theorem EncAt.kept {w0 w w' : World} {g cap : Nat} {bs : List Int} (h : EncAt w0 w g cap bs) {row : Option Nat} (hg : w.grownBy w' row) (hr : ∀ k, row = some k → w0.heap.size ≤ k ∧ k ≠ g) : EncAt w0 w' g cap bs :=
  ⟨h.own.kept hg (.inr (fun e => by have := hr g (by rw [← e]; rfl); exact this.2 rfl)), h.bel.grown hg h.bel.size (fun k e => (hr k e).1)⟩

theorem EncAt.drewN {w0 w : World} {g cap : Nat} {bs : List Int} (h : EncAt w0 w g cap bs) (q : Nat) : EncAt w0 (w.drewN q) g cap bs := by
  induction q with
  | zero => exact h
  | succ q ih => exact ⟨ih.own, ih.bel.drew⟩

/-- 'make([]byte, 0, n)' -/
theorem encMake {w0 w : World} {ops : Array Oper} {rest : List Oper} {o : Oper} {a : Act} {Q : Exit → Act → World → Prop}
    (hg : o.guard = none) (l c : Operand) (hop : o.op = Op.makeSlice 22 l c) (kl kc : IntKind) (C : Int) (n : Nat) (hl : a.eval l = .int kl 0) (hc : a.eval c = .int kc C) (hC : C = (n : Int)) (hn : n ≤ 100000) (hb : Below w0.heap.size w0 w)
    (hK : ∀ w', EncAt w0 w' w.heap.size n [] → w.grownBy w' none → wpList Yba.prog ops Q rest (a.put o.dst (.slice (some ⟨w.heap.size, 0, none⟩) 0 n)) w') :
    wpList Yba.prog ops Q (o :: rest) a w := by
  obtain ⟨i, hi, h0, h1, h2⟩ := info_parts info5
  refine wpList_make_own w hg l c 22 hop w0.heap.size 5 i (.int .u8 0) 1 Yba.underlying22 hi h0 h1 kl kc C n hl hc hC (by rw [h2]; omega) (by unfold maxLen; omega) hb.size ?_
  intro w' hown hgrow
  exact hK w' ⟨hown, hb.grown hgrow hb.size (fun k e => by cases e)⟩ hgrow

/-- 'append(enc, src...)', within the capacity -/
theorem encSrc {w0 w : World} {ops : Array Oper} {rest : List Oper} {o : Oper} {a : Act} {Q : Exit → Act → World → Prop} (hg : o.guard = none) (s x : Operand)
    (hop : o.op = Op.call { callee := Callee.builtin Builtin.append, args := #[s, x], argTypes := #[22, 22] })
    (g k cap : Nat) (bs : List Int) (hs : a.eval s = .slice (some ⟨g, 0, none⟩) k cap) (hk : k = bs.length) (h : EncAt w0 w g cap bs)
    (ao : Option Addr) (m c : Nat) (zs : List Int) (hx : a.eval x = .slice ao m c) (hm : zs.length = m) (hc0 : ao = none → c = 0)
    (hz : 0 < m → ∃ b off, ao = some ⟨b, off, none⟩ ∧ ∀ j, j < m → w.cell? ⟨b, off + j, none⟩ = some (.int .u8 (zs.getD j 0))) (hroom : k + m ≤ cap)
    (hK : ∀ w', EncAt w0 w' g cap (bs ++ zs) → w.grownBy w' (some g) → wpList Yba.prog ops Q rest (a.put o.dst (.slice (some ⟨g, 0, none⟩) (k + m) cap)) w') :
    wpList Yba.prog ops Q (o :: rest) a w := by
  obtain ⟨i, hi, h0, h1, h2⟩ := info_parts info5
  subst hk
  subst hm
  refine wpList_append_fits_any w hg s x 22 hop w0.heap.size 5 i 1 Yba.underlying22 hi h1 g bs.length cap (bs.map (Value.int .u8)) hs h.own ao zs.length c (zs.map (Value.int .u8)) hx (by simp) ?_ ?_ (ints_oneCell _ _) hroom ?_
  · intro e
    refine ⟨?_, hc0 e⟩
    by_cases hp : 0 < zs.length
    · obtain ⟨b, off, e', _⟩ := hz hp
      rw [e] at e'
      cases e'
    · omega
  · intro ad had j u hu
    have hj : j < zs.length := by simpa using (List.getElem?_eq_some_iff.1 hu).1
    obtain ⟨b, off, e', hc⟩ := hz (by omega)
    rw [had] at e'
    cases e'
    rw [Addr.add_lit, hc j hj]
    have e : (zs.map (Value.int .u8))[j]? = some (.int .u8 (zs.getD j 0)) := by simp [List.getElem?_eq_getElem hj]
    rw [e] at hu
    exact hu
  · intro w' hown hgrow
    have hle := h.le
    exact hK w' ⟨by simpa using hown, h.bel.grown hgrow h.bel.size (fun k e => by cases e; exact hle.1)⟩ hgrow

/-- 'append(enc, x, y, ..)', within the capacity -/
theorem encLit {w0 w : World} {ops : Array Oper} {rest : List Oper} {o : Oper} {a : Act} {Q : Exit → Act → World → Prop} (hg : o.guard = none) (s x : Operand)
    (hop : o.op = Op.call { callee := Callee.builtin Builtin.append, args := #[s, x], argTypes := #[22, 22] })
    (g k cap : Nat) (bs : List Int) (hs : a.eval s = .slice (some ⟨g, 0, none⟩) k cap) (hk : k = bs.length) (h : EncAt w0 w g cap bs)
    (z m c : Nat) (zs : List Int) (cs : Array Value) (hx : a.eval x = .slice (some ⟨z, 0, none⟩) m c) (hz : z = w.heap.size) (hm : zs.length = m) (hcs : cs.toList = zs.map (Value.int .u8)) (hroom : k + m ≤ cap)
    (hK : ∀ w', EncAt w0 w' g cap (bs ++ zs) → (w.alloc (.cells cs 5)).grownBy w' (some g) → wpList Yba.prog ops Q rest (a.put o.dst (.slice (some ⟨g, 0, none⟩) (k + m) cap)) w') :
    wpList Yba.prog ops Q (o :: rest) a (w.alloc (.cells cs 5)) := by
  subst hz
  refine encSrc hg s x hop g k cap bs hs hk (h.alloc _) (some ⟨w.heap.size, 0, none⟩) m c zs hx hm (fun e => by cases e) (fun _ => ⟨_, _, rfl, fun j hj => ?_⟩) hroom hK
  have hb := Blk.new w 5 cs
  rw [Nat.zero_add, hb.cell j, ← Array.getElem?_toList, hcs]
  simp [List.getElem?_eq_getElem (show j < zs.length by omega)]

end Go.Proofs.Ybulksk
