/-
  'append([]T(nil), src...)': a copy in a row of the call's own, at this program's types.
-/
import Derived.Test.YbulktmProg
import Derived.Test.YbulktmRowsAt
import Derived.KernelRfl
import Derived.RegionTactic
namespace Go.Proofs.Ybulktm
open Go.RowKit

theorem run_app {P : Program} (w : World) (t ty e : TypeId) (i : TypeInfo) (z : Value) (bytes : Nat) (ht : P.underlying t = some (.slice e)) (hi : P.info? e = some i) (hz : i.zero = some z) (hs : i.size = 1) (hby : i.bytes = bytes) (hzs : z.cells.size = 1) (hb : bytes ≤ 64)
    {B : Nat} {ao : Option Addr} {n cap : Nat} {xs : List Value} (h : SlAt w B ao n cap xs) (h1 : ∀ u ∈ xs, u.oneCell' = true) (hn : n ≤ 4096) :
    ∃ v' w', (Builtin.append_ #[t, t] ty #[.slice none 0 0, .slice ao n cap]).run P w = .ok v' w' ∧ w'.ownsRow w.heap.size e 1 v' n xs ∧ w.grownBy w' none := by
  have htl := h.tl
  cases ao with
  | none =>
    obtain ⟨rfl, rfl⟩ := h.nil rfl
    obtain rfl : xs = [] := List.eq_nil_of_length_eq_zero htl
    exact ⟨_, _, run_append_owned_none w w.heap.size t ty e i 1 ht hi _ 0 [] (World.ownsRow_nil _ _ _ _), World.ownsRow_nil _ _ _ _, World.grownBy.refl _ _⟩
  | some a =>
    have hnews : ∀ j u, xs[j]? = some u → w.cell? (a.add j) = some u := by
      intro j u hu
      have hj : j < n := by have := (List.getElem?_eq_some_iff.1 hu).1; omega
      obtain ⟨b, off, e', _, hc⟩ := h.cells (by omega)
      cases e'
      rw [Addr.add_lit, hc j hj]
      exact hu
    obtain ⟨v', w', hr, ho, hg, _⟩ := run_append_own (P := P) w w.heap.size t ty e i z 1 bytes ht hi hz hs hby hzs (by decide) (.slice none 0 0) 0 [] (World.ownsRow_nil _ _ _ _) a n cap xs (by omega) hnews h1 (by unfold maxLen; omega)
      (by have : n * bytes ≤ 4096 * 64 := Nat.mul_le_mul hn hb; rw [Nat.zero_add]; omega) (Nat.le_refl _)
    exact ⟨v', w', hr, by simpa using ho, hg⟩

/-- at 'Oper.wp' -/
theorem wp_app {P : Program} {w : World} {o : Oper} {a : Act} {K : Act → World → Prop} {Q : Exit → Act → World → Prop} (x : Operand) (t : TypeId)
    (ho : o.op = .call { callee := .builtin .append, args := #[.const (.slice none 0 0), x], argTypes := #[t, t] })
    (e : TypeId) (i : TypeInfo) (z : Value) (bytes : Nat) (ht : P.underlying t = some (.slice e)) (hi : P.info? e = some i) (hz : i.zero = some z) (hs : i.size = 1) (hby : i.bytes = bytes) (hzs : z.cells.size = 1) (hb : bytes ≤ 64)
    (B : Nat) (ao : Option Addr) (n cap : Nat) (xs : List Value) (hx : a.eval x = .slice ao n cap) (h : SlAt w B ao n cap xs) (h1 : ∀ u ∈ xs, u.oneCell' = true) (hn : n ≤ 4096)
    (hK : ∀ a' c' w', w'.ownsRow w.heap.size e 1 (.slice a' n c') n xs → w.grownBy w' none → K (a.put o.dst (.slice a' n c')) w') : o.wp P a w K Q := by
  obtain ⟨v', w', hr, h2, h3⟩ := run_app w t o.type e i z bytes ht hi hz hs hby hzs hb h h1 hn
  obtain ⟨a', c', rfl, _⟩ := own_sl h2
  unfold Oper.wp execOp
  have hnil : a.eval (.const (.slice none 0 0)) = .slice none 0 0 := rfl
  simp only [ho, resolve, invoke, builtin, Sem.run_bind, Sem.run_pure, Result.andThen_ok, List.map_toArray, List.map_cons, List.map_nil, hnil, hx, hr]
  exact hK a' c' w' h2 h3

/-- at a plain region's list -/
theorem wpList_app {P : Program} {w : World} {ops : Array Oper} {rest : List Oper} {o : Oper} {a : Act} {Q : Exit → Act → World → Prop} (hgd : o.guard = none) (x : Operand) (t : TypeId)
    (ho : o.op = .call { callee := .builtin .append, args := #[.const (.slice none 0 0), x], argTypes := #[t, t] })
    (e : TypeId) (i : TypeInfo) (z : Value) (bytes : Nat) (ht : P.underlying t = some (.slice e)) (hi : P.info? e = some i) (hz : i.zero = some z) (hs : i.size = 1) (hby : i.bytes = bytes) (hzs : z.cells.size = 1) (hb : bytes ≤ 64)
    (B : Nat) (ao : Option Addr) (n cap : Nat) (xs : List Value) (hx : a.eval x = .slice ao n cap) (h : SlAt w B ao n cap xs) (h1 : ∀ u ∈ xs, u.oneCell' = true) (hn : n ≤ 4096)
    (hK : ∀ a' c' w', w'.ownsRow w.heap.size e 1 (.slice a' n c') n xs → w.grownBy w' none → wpList P ops Q rest (a.put o.dst (.slice a' n c')) w') : wpList P ops Q (o :: rest) a w :=
  wpList_plain hgd fun _ hK' => wp_app x t ho e i z bytes ht hi hz hs hby hzs hb B ao n cap xs hx h h1 hn fun a' c' w' h2 h3 => hK' _ _ (hK a' c' w' h2 h3)

/-- at a step of a region that draws -/
theorem step_app {P : Program} {w : World} {ops : Array Oper} {o : Oper} {a : Act} {K : Act → World → Prop} {Q : Exit → Act → World → Prop} {E : Prop} (hgd : o.guard = none) (x : Operand) (t : TypeId)
    (ho : o.op = .call { callee := .builtin .append, args := #[.const (.slice none 0 0), x], argTypes := #[t, t] })
    (e : TypeId) (i : TypeInfo) (z : Value) (bytes : Nat) (ht : P.underlying t = some (.slice e)) (hi : P.info? e = some i) (hz : i.zero = some z) (hs : i.size = 1) (hby : i.bytes = bytes) (hzs : z.cells.size = 1) (hb : bytes ≤ 64)
    (B : Nat) (ao : Option Addr) (n cap : Nat) (xs : List Value) (hx : a.eval x = .slice ao n cap) (h : SlAt w B ao n cap xs) (h1 : ∀ u ∈ xs, u.oneCell' = true) (hn : n ≤ 4096)
    (hK : ∀ a' c' w', w'.ownsRow w.heap.size e 1 (.slice a' n c') n xs → w.grownBy w' none → K (a.put o.dst (.slice a' n c')) w') :
    if Region.wanted o (yielded ops a.tmps) = true then Oper.wp P o a w K Q else E := by
  have hw : Region.wanted o (yielded ops a.tmps) = true := by simp [Region.wanted, hgd]
  rw [if_pos hw]
  exact wp_app x t ho e i z bytes ht hi hz hs hby hzs hb B ao n cap xs hx h h1 hn hK

theorem info5 : (Yba.prog.info? 5).map (fun i => (i.zero, i.size, i.bytes)) = some (some (.int .u8 0), 1, 1) := by kernel_rfl
theorem info47 : (Yba.prog.info? 47).map (fun i => (i.zero, i.size, i.bytes)) = some (some (.int .u64 0), 1, 8) := by kernel_rfl
theorem info58 : (Yba.prog.info? 58).map (fun i => (i.zero, i.size, i.bytes)) = some (some (.int .u32 0), 1, 4) := by kernel_rfl
theorem info9 : (Yba.prog.info? 9).map (fun i => (i.zero, i.size, i.bytes)) = some (some (.string ByteArray.empty), 1, 16) := by kernel_rfl
theorem info34 : (Yba.prog.info? 34).map (fun i => (i.zero, i.size, i.bytes)) = some (some (.agg #[.bool false, .slice none 0 0, .slice none 0 0, .slice none 0 0]), 4, 80) := by kernel_rfl

theorem one_str (ss : List ByteArray) : ∀ u ∈ ss.map Value.string, u.oneCell' = true := by
  intro u hu
  obtain ⟨_, _, rfl⟩ := List.mem_map.1 hu
  rfl

end Go.Proofs.Ybulktm
