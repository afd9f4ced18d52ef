/-
  The law's arguments, opened.
-/
import Derived.Test.YbulktmRowsAt
import Derived.Deep.Slices
import Derived.Deep.Strs
import Derived.SizedLaws
import Derived.ProofKit
import Derived.OpenShut
import Derived.ChangeOld
namespace Go.Proofs.Ybulktm
open Go.ChangeShapes Go.WideShapes Go.ChangeAt Go.RowKit
set_option linter.unusedVariables false

section
variable {H : Type} {enc : TypeId × Value → H} {P : Program} {W : World}

theorem weightsAll_mem {e : TypeId} {d : DataW H} {n : Nat} (hn : n ∈ d.weights P e) : ∀ {l : List (DataW H)}, d ∈ l → n ∈ DataW.weightsAll P e l
  | [], h => by cases h
  | x :: r, h => by
    simp only [DataW.weightsAll, List.mem_append]
    rcases List.mem_cons.1 h with rfl | h
    · exact Or.inl hn
    · exact Or.inr (weightsAll_mem hn h)

theorem weights_slice_mem {t e : TypeId} (ht : P.underlying t = some (.slice e)) {elems spare : List (DataW H)} {d : DataW H} {n : Nat} (hn : n ∈ d.weights P e) (hd : d ∈ elems) : n ∈ (DataW.slice elems spare).weights P t := by
  simp only [DataW.weights, ht, List.mem_cons, List.mem_append]
  exact Or.inr (Or.inl (weightsAll_mem hn hd))

/-- a slice's own addresses -/
theorem row_lt {a : Addr} {m : Nat} {l : List MemPlace} {x : List MemPlace} (hx : x = MemPlace.row a m ++ l) (hlt : ∀ y ∈ x, y.block < W.heap.size) (hm : 0 < m) : a.block < W.heap.size := by
  refine hlt (.cell a.block a.off) ?_
  rw [hx]
  refine List.mem_append_left _ ?_
  simp only [MemPlace.row, List.mem_map, List.mem_range]
  exact ⟨0, hm, by simp⟩

theorem sl_int {t q : TypeId} {k : IntKind} (ht : P.underlying t = some (.slice q)) (hq : P.underlying q = some (.int k)) (hc : P.cellsOf q = 1) {fuel : Nat} {v : Value} {x : DataW H × List MemPlace}
    (h : DataW.trod enc P W 0 (fun _ => true) true fuel t [v] = some x) (hlt : ∀ y ∈ x.2, y.block < W.heap.size) :
    ∃ ao cap, ∃ zs : List Int, v = .slice ao zs.length cap ∧ SlAt W W.heap.size ao zs.length cap (zs.map (Value.int k)) := by
  rcases Go.Deep.open_slice1 ht hc h with ⟨hcs, _⟩ | ⟨a, l', c', m, n, V, D, Pl, hcs, _, hl, hm, hmm, hx, hv⟩
  · simp only [List.cons.injEq, and_true] at hcs
    subst hcs
    exact ⟨none, 0, [], rfl, SlAt.empty _ _⟩
  · simp only [List.cons.injEq, and_true] at hcs
    subst hcs
    have hmc : m = c' := by simpa using hmm
    subst hmc
    have hv' : ∀ i, i < m → ∃ z : Int, V i = .int k z := by
      intro i hi
      obtain ⟨z, e0, _⟩ := DataW.trod_int hq (hv i hi).2
      simp only [List.cons.injEq, and_true] at e0
      exact ⟨z, e0⟩
    obtain ⟨f, hf⟩ := Go.Deep.choose_lt hv'
    have hlen : ((List.range l').map f).length = l' := by simp
    refine ⟨some a, m, (List.range l').map f, by rw [hlen], by simp, (fun e => by cases e), fun hp => ?_⟩
    rw [hlen] at hp
    have h0 := (hv 0 (by omega)).1
    obtain ⟨b, off, spot⟩ := a
    have hspot : spot = none := by simpa [Addr.add] using World.cell?_spot h0
    subst hspot
    refine ⟨b, off, rfl, row_lt (a := ⟨b, off, none⟩) (by rw [hx]) hlt (by omega), fun i hi => ?_⟩
    rw [hlen] at hi
    have c0 := (hv i (by omega)).1
    rw [add_plain] at c0
    rw [c0, hf i (by omega)]
    simp [hi]

theorem sl_str {t q : TypeId} (ht : P.underlying t = some (.slice q)) (hq : P.underlying q = some .string) (hc : P.cellsOf q = 1) {fuel : Nat} {v : Value} {x : DataW H × List MemPlace}
    (h : DataW.trod enc P W 0 (fun _ => true) true fuel t [v] = some x) (hlt : ∀ y ∈ x.2, y.block < W.heap.size) :
    ∃ ao cap, ∃ zs : List ByteArray, v = .slice ao zs.length cap ∧ SlAt W W.heap.size ao zs.length cap (zs.map Value.string) ∧ ∀ s ∈ zs, s.size ∈ x.1.weights P t := by
  rcases Go.Deep.open_strs ht hq hc h with ⟨hcs, _⟩ | ⟨a, l', c', m, Sx, hcs, _, hl, hm, hmm, hx, hv⟩
  · simp only [List.cons.injEq, and_true] at hcs
    subst hcs
    exact ⟨none, 0, [], rfl, SlAt.empty _ _, by simp⟩
  · simp only [List.cons.injEq, and_true] at hcs
    subst hcs
    have hmc : m = c' := by simpa using hmm
    subst hmc
    have hlen : ((List.range l').map Sx).length = l' := by simp
    refine ⟨some a, m, (List.range l').map Sx, by rw [hlen], ⟨by simp, (fun e => by cases e), fun hp => ?_⟩, ?_⟩
    · rw [hlen] at hp
      have h0 := (hv 0 (by omega)).1
      obtain ⟨b, off, spot⟩ := a
      have hspot : spot = none := by simpa [Addr.add] using World.cell?_spot h0
      subst hspot
      refine ⟨b, off, rfl, row_lt (a := ⟨b, off, none⟩) (l := []) (by rw [hx, List.append_nil]) hlt (by omega), fun i hi => ?_⟩
      rw [hlen] at hi
      have c0 := (hv i (by omega)).1
      rw [add_plain] at c0
      rw [c0]
      simp [hi]
    · intro s hs
      obtain ⟨i, hi, rfl⟩ := List.mem_map.1 hs
      rw [hx]
      refine weights_slice_mem ht (d := .lit (.string (Sx i).data.toList)) ?_ (List.mem_map.2 ⟨i, hi, rfl⟩)
      simp only [DataW.weights, List.mem_singleton, Array.length_toList]
      rfl

theorem outer_of {α : Type} {mk : List α → List Value} (hmk : ∀ l, (mk l).length = l.length) {E : List α → DataW H → Prop} {t e : TypeId} (ht : P.underlying t = some (.slice e)) (hc : P.cellsOf e = 1)
    (row : ∀ (n : Nat) (v : Value) (y : DataW H × List MemPlace), DataW.trod enc P W 0 (fun _ => true) true n e [v] = some y → (∀ z ∈ y.2, z.block < W.heap.size) → ∃ ao cap, ∃ zs : List α, v = .slice ao zs.length cap ∧ SlAt W W.heap.size ao zs.length cap (mk zs) ∧ E zs y.1)
    {fuel : Nat} {v : Value} {x : DataW H × List MemPlace} (h : DataW.trod enc P W 0 (fun _ => true) true fuel t [v] = some x) (hlt : ∀ y ∈ x.2, y.block < W.heap.size) :
    ∃ ao len cap, ∃ (A : Nat → Option Addr) (C : Nat → Nat) (X : Nat → List α), v = .slice ao len cap ∧ Outer W W.heap.size ao len cap A (fun i => (X i).length) C (fun i => mk (X i)) ∧
      ∀ i, X i = [] ∨ ∃ d elems spare, x.1 = .slice elems spare ∧ d ∈ elems ∧ E (X i) d := by
  have hmk0 : mk [] = [] := List.eq_nil_of_length_eq_zero (hmk [])
  rcases Go.Deep.open_slice1 ht hc h with ⟨hcs, _⟩ | ⟨a, l', c', m, n, V, D, Pl, hcs, _, hl, hm, hmm, hx, hv⟩
  · simp only [List.cons.injEq, and_true] at hcs
    subst hcs
    refine ⟨none, 0, 0, fun _ => none, fun _ => 0, fun _ => [], rfl, ⟨fun _ => ⟨rfl, rfl⟩, fun hp => absurd hp (Nat.lt_irrefl _), fun i => ?_, fun i _ => ⟨rfl, rfl, rfl⟩⟩, fun i => Or.inl rfl⟩
    simp only [hmk0]
    exact SlAt.empty _ _
  · simp only [List.cons.injEq, and_true] at hcs
    subst hcs
    have hmc : m = c' := by simpa using hmm
    subst hmc
    have hv' : ∀ i, i < l' → ∃ p : Option Addr × Nat × List α, V i = .slice p.1 p.2.2.length p.2.1 ∧ SlAt W W.heap.size p.1 p.2.2.length p.2.1 (mk p.2.2) ∧ E p.2.2 (D i) := by
      intro i hi
      obtain ⟨ao, cap, zs, h1, h2, h3⟩ := row n (V i) (D i, Pl i) (hv i (by omega)).2 (fun z hz => hlt z (by
        rw [hx]
        refine List.mem_append_right _ (List.mem_flatMap.2 ⟨i, List.mem_range.2 (by omega), hz⟩)))
      exact ⟨(ao, cap, zs), h1, h2, h3⟩
    obtain ⟨f, hf⟩ := Go.Deep.choose_lt hv'
    refine ⟨some a, l', m, fun i => if i < l' then (f i).1 else none, fun i => if i < l' then (f i).2.1 else 0, fun i => if i < l' then (f i).2.2 else [], rfl, ⟨(fun e => by cases e), fun hp => ?_, fun i => ?_, fun i hi => ?_⟩, fun i => ?_⟩
    · have h0 := (hv 0 (by omega)).1
      obtain ⟨b, off, spot⟩ := a
      have hspot : spot = none := by simpa [Addr.add] using World.cell?_spot h0
      subst hspot
      refine ⟨b, off, rfl, row_lt (a := ⟨b, off, none⟩) (by rw [hx]) hlt (by omega), fun i hi => ?_⟩
      have c0 := (hv i (by omega)).1
      rw [add_plain] at c0
      rw [c0, (hf i hi).1]
      simp [hi]
    · by_cases hi : i < l'
      · simp only [if_pos hi]
        exact (hf i hi).2.1
      · simp only [if_neg hi, hmk0]
        exact SlAt.empty _ _
    · simp [hi]
    · by_cases hi : i < l'
      · simp only [if_pos hi]
        exact Or.inr ⟨D i, _, _, by rw [hx], List.mem_map.2 ⟨i, List.mem_range.2 hi, rfl⟩, (hf i hi).2.2⟩
      · exact Or.inl (by simp [hi])
end

end Go.Proofs.Ybulktm
