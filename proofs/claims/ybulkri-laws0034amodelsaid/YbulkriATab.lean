/-
  LawS0034AModel: the table of spans, plainly.
-/
namespace Go.Proofs.Ybulkri.A

/-- one access of transaction t to item x -/
def addSpan (L : List (Nat × Nat)) (t x : Nat) : List (Nat × Nat) := if (t, x) ∈ L then L else L ++ [(t, x)]

/-- the accesses of one item, by their transactions -/
def addAll (L : List (Nat × Nat)) (x : Nat) (ts : List Nat) : List (Nat × Nat) := ts.foldl (fun L t => addSpan L t x) L

/-- all items -/
def spansUp (tsOf : Nat → List Nat) : Nat → List (Nat × Nat)
  | 0 => []
  | x + 1 => addAll (spansUp tsOf x) x (tsOf x)

theorem mem_addSpan {L : List (Nat × Nat)} {t x : Nat} {p : Nat × Nat} : p ∈ addSpan L t x ↔ p ∈ L ∨ p = (t, x) := by
  unfold addSpan
  split
  · rename_i h
    constructor
    · exact .inl
    · rintro (h' | rfl)
      · exact h'
      · exact h
  · simp

theorem mem_addAll {L : List (Nat × Nat)} {x : Nat} {ts : List Nat} {p : Nat × Nat} : p ∈ addAll L x ts ↔ p ∈ L ∨ (p.2 = x ∧ p.1 ∈ ts) := by
  induction ts generalizing L with
  | nil => simp [addAll]
  | cons t ts ih =>
    have : addAll L x (t :: ts) = addAll (addSpan L t x) x ts := rfl
    rw [this, ih, mem_addSpan]
    obtain ⟨a, b⟩ := p
    simp only [Prod.mk.injEq, List.mem_cons]
    constructor
    · rintro ((h | ⟨h1, h2⟩) | ⟨h1, h2⟩)
      · exact .inl h
      · exact .inr ⟨h2, .inl h1⟩
      · exact .inr ⟨h1, .inr h2⟩
    · rintro (h | ⟨h1, h2 | h2⟩)
      · exact .inl (.inl h)
      · exact .inl (.inr ⟨h2, h1⟩)
      · exact .inr ⟨h1, h2⟩

theorem mem_spansUp {tsOf : Nat → List Nat} {n : Nat} {p : Nat × Nat} : p ∈ spansUp tsOf n ↔ p.2 < n ∧ p.1 ∈ tsOf p.2 := by
  induction n with
  | zero => simp [spansUp]
  | succ n ih =>
    rw [spansUp, mem_addAll, ih]
    constructor
    · rintro (⟨h1, h2⟩ | ⟨rfl, h2⟩)
      · exact ⟨by omega, h2⟩
      · exact ⟨by omega, h2⟩
    · rintro ⟨h1, h2⟩
      by_cases e : p.2 = n
      · exact .inr ⟨e, e ▸ h2⟩
      · exact .inl ⟨by omega, h2⟩

theorem addSpan_nodup {L : List (Nat × Nat)} {t x : Nat} (h : L.Nodup) : (addSpan L t x).Nodup := by
  unfold addSpan
  split
  · exact h
  · rename_i hn
    rw [List.nodup_append]
    refine ⟨h, by simp, fun a ha b hb => ?_⟩
    simp only [List.mem_singleton] at hb
    subst hb
    rintro rfl
    exact hn ha

theorem addAll_nodup {L : List (Nat × Nat)} {x : Nat} {ts : List Nat} (h : L.Nodup) : (addAll L x ts).Nodup := by
  induction ts generalizing L with
  | nil => exact h
  | cons t ts ih => exact ih (addSpan_nodup h)

theorem spansUp_nodup (tsOf : Nat → List Nat) (n : Nat) : (spansUp tsOf n).Nodup := by
  induction n with
  | zero => simp [spansUp]
  | succ n ih => exact addAll_nodup ih

theorem addSpan_sorted {L : List (Nat × Nat)} {t x : Nat} (h : L.Pairwise (fun a b => a.2 ≤ b.2)) (hx : ∀ p ∈ L, p.2 ≤ x) : (addSpan L t x).Pairwise (fun a b => a.2 ≤ b.2) ∧ ∀ p ∈ addSpan L t x, p.2 ≤ x := by
  refine ⟨?_, fun p hp => ?_⟩
  · unfold addSpan
    split
    · exact h
    · rw [List.pairwise_append]
      exact ⟨h, by simp, fun a ha b hb => by simp only [List.mem_singleton] at hb; subst hb; exact hx a ha⟩
  · rcases mem_addSpan.1 hp with h' | rfl
    · exact hx p h'
    · exact Nat.le_refl _

theorem addAll_sorted {L : List (Nat × Nat)} {x : Nat} {ts : List Nat} (h : L.Pairwise (fun a b => a.2 ≤ b.2)) (hx : ∀ p ∈ L, p.2 ≤ x) : (addAll L x ts).Pairwise (fun a b => a.2 ≤ b.2) := by
  induction ts generalizing L with
  | nil => exact h
  | cons t ts ih =>
    obtain ⟨h1, h2⟩ := addSpan_sorted (t := t) h hx
    exact ih h1 h2

theorem spansUp_sorted (tsOf : Nat → List Nat) (n : Nat) : (spansUp tsOf n).Pairwise (fun a b => a.2 ≤ b.2) := by
  induction n with
  | zero => simp [spansUp]
  | succ n ih => exact addAll_sorted ih fun p hp => by have := (mem_spansUp.1 hp).1; omega

theorem addSpan_length {L : List (Nat × Nat)} {t x : Nat} : (addSpan L t x).length = L.length + (if (t, x) ∈ L then 0 else 1) := by
  unfold addSpan
  split <;> simp

theorem addAll_length {L : List (Nat × Nat)} {x : Nat} {ts : List Nat} : (addAll L x ts).length ≤ L.length + ts.length := by
  induction ts generalizing L with
  | nil => simp [addAll]
  | cons t ts ih =>
    have : addAll L x (t :: ts) = addAll (addSpan L t x) x ts := rfl
    rw [this]
    have := ih (L := addSpan L t x)
    have h2 := addSpan_length (L := L) (t := t) (x := x)
    simp only [List.length_cons]
    split at h2 <;> omega

/-- the spans of transaction t, by index -/
def ownOf (L : List (Nat × Nat)) (t : Nat) : List Nat := (List.range L.length).filter fun k => decide ((L.getD k (0, 0)).1 = t)

theorem mem_ownOf {L : List (Nat × Nat)} {t k : Nat} : k ∈ ownOf L t ↔ k < L.length ∧ (L.getD k (0, 0)).1 = t := by
  simp [ownOf]

/-- their items ascend -/
theorem ownOf_items {L : List (Nat × Nat)} (hn : L.Nodup) (hs : L.Pairwise (fun a b => a.2 ≤ b.2)) (t : Nat) : (ownOf L t).Pairwise (fun k k' => (L.getD k (0, 0)).2 < (L.getD k' (0, 0)).2) := by
  have hr : (ownOf L t).Pairwise (· < ·) := List.Pairwise.filter _ List.pairwise_lt_range
  refine hr.imp_of_mem fun {a b} ha hb hab => ?_
  obtain ⟨a1, a2⟩ := mem_ownOf.1 ha
  obtain ⟨b1, b2⟩ := mem_ownOf.1 hb
  have hle := (List.pairwise_iff_getElem.1 hs) a b a1 b1 hab
  have hne : L[a] ≠ L[b] := by
    have := (List.nodup_iff_pairwise_ne.1 hn)
    exact (List.pairwise_iff_getElem.1 this) a b a1 b1 hab
  simp only [List.getD_eq_getElem?_getD, List.getElem?_eq_getElem a1, List.getElem?_eq_getElem b1, Option.getD_some] at a2 b2 ⊢
  have : (L[a]).2 ≠ (L[b]).2 := fun e => hne (Prod.ext (a2.trans b2.symm) e)
  omega
end Go.Proofs.Ybulkri.A
