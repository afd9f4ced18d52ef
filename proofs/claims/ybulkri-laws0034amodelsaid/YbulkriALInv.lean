/-
  LawS0034AModel: what the law's own building gives, plainly.
-/
import Derived.Test.YbulkriAPlain
namespace Go.Proofs.Ybulkri.A

theorem cnt_le (p : Nat → Bool) (n : Nat) : cnt p n ≤ n := by
  induction n with
  | zero => simp [cnt]
  | succ n ih => simp only [cnt]; split <;> omega

/-- the schedule in the building: its operations, the numbers given to the raw names -/
structure LInv (ops : List (Int × Int × Int)) (tI xI : Nat → Int) (en : Nat → Bool) (nT nX : Nat) : Prop where
  tc : (nT : Int) = cnt (fun r => decide (0 ≤ tI r)) 4
  xc : (nX : Int) = cnt (fun r => decide (0 ≤ xI r)) 3
  tr : ∀ r, r < 4 → -1 ≤ tI r ∧ tI r < nT
  xr : ∀ r, r < 3 → -1 ≤ xI r ∧ xI r < nX
  inj : ∀ r r', r < 4 → r' < 4 → 0 ≤ tI r → tI r = tI r' → r = r'
  en : ∀ i, i < ops.length → ((ops.getD i (0, 0, 0)).1 = 3 ∨ (ops.getD i (0, 0, 0)).1 = 4) → ∀ r, r < 4 → tI r = (ops.getD i (0, 0, 0)).2.1 → en r = true
  v : Valid ops nT nX

theorem LInv.nT_le {ops : List (Int × Int × Int)} {tI xI : Nat → Int} {en : Nat → Bool} {nT nX : Nat} (h : LInv ops tI xI en nT nX) : nT ≤ 4 := by
  have := cnt_le (fun r => decide (0 ≤ tI r)) 4
  have := h.tc
  omega
theorem LInv.nX_le {ops : List (Int × Int × Int)} {tI xI : Nat → Int} {en : Nat → Bool} {nT nX : Nat} (h : LInv ops tI xI en nT nX) : nX ≤ 3 := by
  have := cnt_le (fun r => decide (0 ≤ xI r)) 3
  have := h.xc
  omega

theorem LInv.start : LInv [] (fun _ => -1) (fun _ => -1) (fun _ => false) 0 0 :=
  ⟨by decide, by decide, fun r _ => by simp, fun r _ => by simp, fun r r' _ _ h => by simp at h, fun i hi => absurd hi (Nat.not_lt_zero _),
   ⟨fun i hi => absurd hi (Nat.not_lt_zero _), fun i hi => absurd hi (Nat.not_lt_zero _), fun i hi => absurd hi (Nat.not_lt_zero _), fun i hi => absurd hi (Nat.not_lt_zero _), fun i j _ hj => absurd hj (Nat.not_lt_zero _)⟩⟩

theorem Valid.more {ops : List (Int × Int × Int)} {nT nX nT' nX' : Nat} (h : Valid ops nT nX) (h1 : nT ≤ nT') (h2 : nX ≤ nX') : Valid ops nT' nX' :=
  ⟨h.kind, fun i hi => ⟨(h.txn i hi).1, by have := (h.txn i hi).2; omega⟩, fun i hi a b => ⟨(h.item i hi a b).1, by have := (h.item i hi a b).2; omega⟩, h.none, h.last⟩

theorem LInv.newT {ops : List (Int × Int × Int)} {tI xI : Nat → Int} {en : Nat → Bool} {nT nX : Nat} (h : LInv ops tI xI en nT nX) {r : Nat} (hr : r < 4) (hn : tI r < 0) : LInv ops (putI tI r nT) xI en (nT + 1) nX := by
  refine ⟨?_, h.xc, fun u hu => ?_, h.xr, fun u u' hu hu' h0 he => ?_, fun i hi hk u hu he => ?_, h.v.more (by omega) (Nat.le_refl _)⟩
  · rw [cnt_turn (p := fun r => decide (0 ≤ tI r)) (q := fun u => decide (0 ≤ putI tI r nT u)) hr (by intro u hu; simp [putI, hu]), ← h.tc]
    simp [putI]
    omega
  · unfold putI
    have := h.tr u hu
    split <;> omega
  · unfold putI at h0 he
    have h1 := h.tr u hu
    have h2 := h.tr u' hu'
    by_cases e : u = r
    · by_cases e' : u' = r
      · omega
      · rw [if_pos e, if_neg e'] at he
        omega
    · by_cases e' : u' = r
      · rw [if_neg e, if_pos e'] at he
        omega
      · rw [if_neg e] at h0 he
        rw [if_neg e'] at he
        exact h.inj u u' hu hu' h0 he
  · unfold putI at he
    have ht := h.v.txn i hi
    by_cases e : u = r
    · rw [if_pos e] at he
      omega
    · rw [if_neg e] at he
      exact h.en i hi hk u hu he

theorem LInv.newX {ops : List (Int × Int × Int)} {tI xI : Nat → Int} {en : Nat → Bool} {nT nX : Nat} (h : LInv ops tI xI en nT nX) {r : Nat} (hr : r < 3) (hn : xI r < 0) : LInv ops tI (putI xI r nX) en nT (nX + 1) := by
  refine ⟨h.tc, ?_, h.tr, fun u hu => ?_, h.inj, h.en, h.v.more (Nat.le_refl _) (by omega)⟩
  · rw [cnt_turn (p := fun r => decide (0 ≤ xI r)) (q := fun u => decide (0 ≤ putI xI r nX u)) hr (by intro u hu; simp [putI, hu]), ← h.xc]
    simp [putI]
    omega
  · unfold putI
    have := h.xr u hu
    split <;> omega

theorem getD_snoc {α : Type} (l : List α) (x d : α) (i : Nat) : (l ++ [x]).getD i d = if i < l.length then l.getD i d else if i = l.length then x else d := by
  simp only [List.getD_eq_getElem?_getD]
  by_cases h : i < l.length
  · rw [if_pos h, List.getElem?_append_left h]
  · rw [if_neg h]
    by_cases e : i = l.length
    · subst e; simp
    · rw [if_neg e, List.getElem?_eq_none (by simp; omega)]
      rfl

/-- one more operation of the raw transaction r -/
theorem LInv.push {ops : List (Int × Int × Int)} {tI xI : Nat → Int} {en : Nat → Bool} {nT nX : Nat} (h : LInv ops tI xI en nT nX) {r : Nat} (hr : r < 4) (h0 : 0 ≤ tI r) {kd x : Int} (hk : 1 ≤ kd ∧ kd ≤ 7) (he : en r = true → kd = 7)
    (hx : (kd = 3 ∨ kd = 4) → x = -1) (hx' : kd ≠ 3 → kd ≠ 4 → 0 ≤ x ∧ x < nX) : LInv (ops ++ [(kd, tI r, x)]) tI xI (if kd = 3 ∨ kd = 4 then putB en r true else en) nT nX := by
  have ht := h.tr r hr
  refine ⟨h.tc, h.xc, h.tr, h.xr, h.inj, fun i hi hk' u hu hu' => ?_, ⟨fun i hi => ?_, fun i hi => ?_, fun i hi => ?_, fun i hi => ?_, fun i j hij hj => ?_⟩⟩
  · rw [getD_snoc] at hk' hu'
    simp only [List.length_append, List.length_cons, List.length_nil] at hi
    by_cases e : i < ops.length
    · rw [if_pos e] at hk' hu'
      have := h.en i e hk' u hu hu'
      split
      · unfold putB
        split
        · rfl
        · exact this
      · exact this
    · have e2 : i = ops.length := by omega
      rw [if_neg e, if_pos e2] at hk' hu'
      have : u = r := h.inj u r hu hr (by rw [hu']; exact h0) hu'
      rw [if_pos hk']
      simp [putB, this]
  · rw [getD_snoc]
    simp only [List.length_append, List.length_cons, List.length_nil] at hi
    by_cases e : i < ops.length
    · rw [if_pos e]; exact h.v.kind i e
    · rw [if_neg e, if_pos (by omega)]; exact hk
  · rw [getD_snoc]
    simp only [List.length_append, List.length_cons, List.length_nil] at hi
    by_cases e : i < ops.length
    · rw [if_pos e]; exact h.v.txn i e
    · rw [if_neg e, if_pos (by omega)]
      exact ⟨h0, by dsimp only; omega⟩
  · rw [getD_snoc]
    simp only [List.length_append, List.length_cons, List.length_nil] at hi
    by_cases e : i < ops.length
    · rw [if_pos e]; exact h.v.item i e
    · rw [if_neg e, if_pos (by omega)]
      intro a b
      have := hx' a b
      exact ⟨this.1, by dsimp only; omega⟩
  · rw [getD_snoc]
    simp only [List.length_append, List.length_cons, List.length_nil] at hi
    by_cases e : i < ops.length
    · rw [if_pos e]; exact h.v.none i e
    · rw [if_neg e, if_pos (by omega)]
      exact hx
  · rw [getD_snoc, getD_snoc]
    simp only [List.length_append, List.length_cons, List.length_nil] at hj
    by_cases e : j < ops.length
    · rw [if_pos e, if_pos (show i < ops.length by omega)]
      exact h.v.last i j hij e
    · rw [if_pos (show i < ops.length by omega), if_neg e, if_pos (show j = ops.length by omega)]
      intro hk' heq
      exact he (h.en i (by omega) hk' r hr heq.symm)
end Go.Proofs.Ybulkri.A
