/-
  PLAIN: no Go in sight. The mathematics behind LawS0034BExact: a schedule built out of steps (kind, number); which numbers abort.
-/
namespace Go.Proofs.Ybulkri.BP

/-- of the steps of number n: the first commit-or-abort: 'some true': an abort -/
def firstEnd : List (Int × Int) → Int → Option Bool
  | [], _ => none
  | s :: l, n => if s.2 + 1 = n ∧ s.1 % 7 = 2 then some false else if s.2 + 1 = n ∧ s.1 % 7 = 3 then some true else firstEnd l n

theorem firstEnd_snoc (l : List (Int × Int)) (s : Int × Int) (n : Int) : firstEnd (l ++ [s]) n = (firstEnd l n).or (firstEnd [s] n) := by
  induction l with
  | nil => simp [firstEnd]
  | cons a l ih =>
    simp only [List.cons_append, firstEnd] at ih ⊢
    split
    · simp
    · split
      · simp
      · exact ih

theorem firstEnd_skip (s : Int × Int) (l : List (Int × Int)) (n : Int) (h : s.2 + 1 ≠ n ∨ (s.1 % 7 ≠ 2 ∧ s.1 % 7 ≠ 3)) : firstEnd (s :: l) n = firstEnd l n := by
  simp only [firstEnd]
  rw [if_neg (by omega), if_neg (by omega)]

theorem firstEnd_mem {l : List (Int × Int)} {n : Int} {b : Bool} (h : firstEnd l n = some b) : ∃ s ∈ l, s.2 + 1 = n := by
  induction l with
  | nil => simp [firstEnd] at h
  | cons a l ih =>
    simp only [firstEnd] at h
    split at h
    · exact ⟨a, by simp, by omega⟩
    · split at h
      · exact ⟨a, by simp, by omega⟩
      · obtain ⟨s, hs, e⟩ := ih h
        exact ⟨s, by simp [hs], e⟩

/-- What the fields of the schedule are good for, the steps l having been taken in. -/
structure Inv (l : List (Int × Int)) (txns ends : List Int) (ops : List (Int × Int × Int)) : Prop where
  len : ends.length = txns.length
  opsLen : ops.length = l.length
  nodup : txns.Nodup
  mem : ∀ n, n ∈ txns ↔ ∃ s ∈ l, s.2 + 1 = n
  fin : ∀ t, t < txns.length → (ends.getD t 0 = -1 ∧ firstEnd l (txns.getD t 0) = none) ∨
    ∃ (p : Nat) (b : Bool), ends.getD t 0 = (p : Int) ∧ p < ops.length ∧ firstEnd l (txns.getD t 0) = some b ∧ (ops.getD p (0, 0, 0)).1 = (if b then 4 else 3)

/-- .. in the middle of a round: the number of the step at hand stands at index t. -/
structure Mid (l : List (Int × Int)) (s : Int × Int) (txns ends : List Int) (ops : List (Int × Int × Int)) (t : Nat) : Prop where
  len : ends.length = txns.length
  opsLen : ops.length = l.length
  nodup : txns.Nodup
  mem : ∀ n, n ∈ txns ↔ ∃ s' ∈ l ++ [s], s'.2 + 1 = n
  fin : ∀ t, t < txns.length → (ends.getD t 0 = -1 ∧ firstEnd l (txns.getD t 0) = none) ∨
    ∃ (p : Nat) (b : Bool), ends.getD t 0 = (p : Int) ∧ p < ops.length ∧ firstEnd l (txns.getD t 0) = some b ∧ (ops.getD p (0, 0, 0)).1 = (if b then 4 else 3)
  lt : t < txns.length
  at_ : txns.getD t 0 = s.2 + 1

theorem inv_nil : Inv [] [] [] [] := ⟨rfl, rfl, by simp, by simp, by simp⟩

theorem mid_found {l s txns ends ops t} (h : Inv l txns ends ops) (ht : t < txns.length) (e : txns.getD t 0 = s.2 + 1) : Mid l s txns ends ops t := by
  refine ⟨h.len, h.opsLen, h.nodup, fun n => ?_, h.fin, ht, e⟩
  rw [h.mem]
  constructor
  · rintro ⟨s', hs, e'⟩
    exact ⟨s', by simp [hs], e'⟩
  · rintro ⟨s', hs, e'⟩
    rcases List.mem_append.1 hs with hs | hs
    · exact ⟨s', hs, e'⟩
    · obtain rfl := List.mem_singleton.1 hs
      rw [← h.mem]
      have : txns.getD t 0 ∈ txns := by
        rw [List.getD_eq_getElem?_getD, List.getElem?_eq_getElem ht]
        simp
      rwa [e, e'] at this

theorem getD_append_lt {α : Type} (l r : List α) (d : α) {t : Nat} (h : t < l.length) : (l ++ r).getD t d = l.getD t d := by
  simp [List.getD_eq_getElem?_getD, List.getElem?_append_left h]

theorem getD_append_at {α : Type} (l : List α) (x d : α) : (l ++ [x]).getD l.length d = x := by
  simp [List.getD_eq_getElem?_getD]

theorem mid_new {l s txns ends ops} (h : Inv l txns ends ops) (hn : s.2 + 1 ∉ txns) : Mid l s (txns ++ [s.2 + 1]) (ends ++ [-1]) ops txns.length := by
  refine ⟨by simp [h.len], h.opsLen, ?_, fun n => ?_, fun t ht => ?_, by simp, getD_append_at _ _ _⟩
  · rw [List.nodup_append]
    refine ⟨h.nodup, by simp, ?_⟩
    intro a ha b hb
    obtain rfl := List.mem_singleton.1 hb
    intro e
    exact hn (e ▸ ha)
  · rw [List.mem_append, h.mem]
    constructor
    · rintro (⟨s', hs, e'⟩ | e)
      · exact ⟨s', by simp [hs], e'⟩
      · exact ⟨s, by simp, (List.mem_singleton.1 e).symm⟩
    · rintro ⟨s', hs, e'⟩
      rcases List.mem_append.1 hs with hs | hs
      · exact .inl ⟨s', hs, e'⟩
      · obtain rfl := List.mem_singleton.1 hs
        exact .inr (by simp [e'])
  · by_cases hlt : t < txns.length
    · rw [getD_append_lt _ _ _ hlt, getD_append_lt _ _ _ (by rw [h.len]; exact hlt)]
      exact h.fin t hlt
    · have : t = txns.length := by simp at ht; omega
      subst this
      left
      refine ⟨by rw [← h.len]; exact getD_append_at _ _ _, ?_⟩
      rw [getD_append_at]
      cases e : firstEnd l (s.2 + 1) with
      | none => rfl
      | some b => exact absurd ((h.mem _).2 (firstEnd_mem e)) hn

/-- The kind of the operation that the step becomes; e: where its transaction ended so far (negative: nowhere). -/
def kindOf (K e : Int) : Int := if K % 7 + 1 = 3 ∨ K % 7 + 1 = 4 then (if 0 ≤ e then 7 else K % 7 + 1) else K % 7 + 1
/-- .. and whether it ends its transaction now. -/
def endsNow (K e : Int) : Bool := decide (K % 7 + 1 = 3 ∨ K % 7 + 1 = 4) && !decide (0 ≤ e)

theorem kindOf_late {K e : Int} (h : K % 7 + 1 = 3 ∨ K % 7 + 1 = 4) (he : 0 ≤ e) : kindOf K e = 7 := by simp [kindOf, h, he]
theorem kindOf_end {K e : Int} (he : ¬ 0 ≤ e) : kindOf K e = K % 7 + 1 := by simp [kindOf, he]
theorem kindOf_plain {K e : Int} (h : ¬ (K % 7 + 1 = 3 ∨ K % 7 + 1 = 4)) : kindOf K e = K % 7 + 1 := by simp [kindOf, h]
theorem endsNow_late {K e : Int} (he : 0 ≤ e) : endsNow K e = false := by simp [endsNow, he]
theorem endsNow_end {K e : Int} (h : K % 7 + 1 = 3 ∨ K % 7 + 1 = 4) (he : ¬ 0 ≤ e) : endsNow K e = true := by simp [endsNow, h, he]
theorem endsNow_plain {K e : Int} (h : ¬ (K % 7 + 1 = 3 ∨ K % 7 + 1 = 4)) : endsNow K e = false := by simp [endsNow, h]

theorem mid_done {l s txns ends ops t} (h : Mid l s txns ends ops t) (x : Int) :
    Inv (l ++ [s]) txns (if endsNow s.1 (ends.getD t 0) then ends.set t (l.length : Int) else ends) (ops ++ [(kindOf s.1 (ends.getD t 0), (t : Int), x)]) := by
  have inj : ∀ u, u < txns.length → txns.getD u 0 = s.2 + 1 → u = t := by
    intro u hu e
    have h1 : txns[u]? = txns[t]? := by
      have e2 := e.trans h.at_.symm
      rw [List.getD_eq_getElem?_getD, List.getD_eq_getElem?_getD, List.getElem?_eq_getElem hu, List.getElem?_eq_getElem h.lt] at e2
      rw [List.getElem?_eq_getElem hu, List.getElem?_eq_getElem h.lt]
      simpa using e2
    exact (List.getElem?_inj hu h.nodup).1 h1
  refine ⟨by split <;> simp [h.len], by simp [h.opsLen], h.nodup, h.mem, fun u hu => ?_⟩
  have hops : ∀ p, p < ops.length → (ops ++ [(kindOf s.1 (ends.getD t 0), (t : Int), x)]).getD p (0, 0, 0) = ops.getD p (0, 0, 0) := fun p hp => getD_append_lt _ _ _ hp
  by_cases hut : u = t
  · subst hut
    rw [firstEnd_snoc, h.at_]
    have hf := h.fin u hu
    rw [h.at_] at hf
    rcases hf with ⟨e1, e2⟩ | ⟨p, b, e1, e2, e3, e4⟩
    · rw [e1, e2]
      simp only [Option.none_or, firstEnd, true_and]
      by_cases k2 : s.1 % 7 = 2
      · right
        refine ⟨l.length, false, ?_, ?_, ?_, ?_⟩
        · have : endsNow s.1 (-1) = true := by simp [endsNow, k2]
          rw [this]
          simp [List.getD_eq_getElem?_getD, h.len, hu]
        · simp [h.opsLen]
        · simp [k2]
        · rw [← h.opsLen, getD_append_at]
          simp [kindOf, k2]
      · by_cases k3 : s.1 % 7 = 3
        · right
          refine ⟨l.length, true, ?_, ?_, ?_, ?_⟩
          · have : endsNow s.1 (-1) = true := by simp [endsNow, k3]
            rw [this]
            simp [List.getD_eq_getElem?_getD, h.len, hu]
          · simp [h.opsLen]
          · simp [k3]
          · rw [← h.opsLen, getD_append_at]
            simp [kindOf, k3]
        · left
          have : endsNow s.1 (-1) = false := by simp [endsNow]; omega
          rw [this]
          simp [k2, k3]
          exact e1
    · right
      refine ⟨p, b, ?_, by simp; omega, by rw [e3]; rfl, by rw [hops p e2]; exact e4⟩
      have : endsNow s.1 (ends.getD u 0) = false := by simp only [endsNow, e1]; simp
      rw [this]
      simpa using e1
  · have hne : txns.getD u 0 ≠ s.2 + 1 := fun e => hut (inj u hu e)
    have hfe : firstEnd (l ++ [s]) (txns.getD u 0) = firstEnd l (txns.getD u 0) := by
      rw [firstEnd_snoc, firstEnd_skip s [] _ (.inl (fun e => hne e.symm))]
      simp [firstEnd]
    rw [hfe]
    have hend : (if endsNow s.1 (ends.getD t 0) then ends.set t (l.length : Int) else ends).getD u 0 = ends.getD u 0 := by
      split
      · simp [List.getD_eq_getElem?_getD, Ne.symm hut]
      · rfl
    rw [hend]
    rcases h.fin u hu with ⟨e1, e2⟩ | ⟨p, b, e1, e2, e3, e4⟩
    · exact .inl ⟨e1, e2⟩
    · exact .inr ⟨p, b, e1, by simp; omega, e3, by rw [hops p e2]; exact e4⟩

theorem len_le_of_nodup (a : List Int) : ∀ l : List Int, a.Nodup → a ⊆ l → a.length ≤ l.length := by
  induction a with
  | nil => intro l _ _; simp
  | cons x as ih =>
    intro l hn hs
    have hx : x ∈ l := hs (by simp)
    rw [List.nodup_cons] at hn
    have h1 := ih (l.erase x) hn.2 (fun y hy => (List.mem_erase_of_ne (show y ≠ x from fun e => hn.1 (by rw [← e]; exact hy))).2 (hs (by simp [hy])))
    rw [List.length_erase_of_mem hx] at h1
    have : 0 < l.length := List.length_pos_of_mem hx
    simp
    omega

theorem Inv.txns_le {l txns ends ops} (h : Inv l txns ends ops) : txns.length ≤ l.length := by
  have hs : txns ⊆ l.map (fun s => s.2 + 1) := by
    intro n hn
    obtain ⟨s, hs, e⟩ := (h.mem n).1 hn
    exact List.mem_map.2 ⟨s, hs, e⟩
  simpa using len_le_of_nodup _ _ h.nodup hs

/-- the transactions that abort, as 'Aborted' gathers them -/
def ab (ends : List Int) (ops : List (Int × Int × Int)) (t : Nat) : Bool := decide (0 ≤ ends.getD t 0) && ((ops.getD (ends.getD t 0).toNat (0, 0, 0)).1 == 4)
def gathered (txns ends : List Int) (ops : List (Int × Int × Int)) : Nat → List Int
  | 0 => []
  | k + 1 => gathered txns ends ops k ++ (if ab ends ops k then [txns.getD k 0] else [])

theorem gathered_le (txns ends : List Int) (ops : List (Int × Int × Int)) (k : Nat) : (gathered txns ends ops k).length ≤ k := by
  induction k with
  | zero => simp [gathered]
  | succ k ih => simp only [gathered, List.length_append]; split <;> simp <;> omega

theorem ab_iff {l txns ends ops} (h : Inv l txns ends ops) {t : Nat} (ht : t < txns.length) : ab ends ops t = (firstEnd l (txns.getD t 0) == some true) := by
  unfold ab
  rcases h.fin t ht with ⟨e1, e2⟩ | ⟨p, b, e1, e2, e3, e4⟩
  · rw [e1, e2]; rfl
  · rw [e1, e3, Int.toNat_natCast, e4]
    cases b <;> simp

theorem gathered_eq {l txns ends ops} (h : Inv l txns ends ops) (k : Nat) (hk : k ≤ txns.length) : gathered txns ends ops k = (txns.take k).filter fun n => firstEnd l n == some true := by
  induction k with
  | zero => simp [gathered]
  | succ k ih =>
    rw [gathered, ih (by omega), ab_iff h (by omega), List.take_succ_eq_append_getElem (by omega), List.filter_append]
    congr 1
    have : txns.getD k 0 = txns[k] := by simp [List.getD_eq_getElem?_getD, List.getElem?_eq_getElem (show k < txns.length by omega)]
    rw [this]
    simp [List.filter_cons]

/-- what the law wants, n numbers having been asked -/
def wants (l : List (Int × Int)) : Nat → List Int
  | 0 => []
  | k + 1 => wants l k ++ (if firstEnd l ((k : Int) + 1) == some true then [(k : Int) + 1] else [])

theorem wants_le (l : List (Int × Int)) (k : Nat) : (wants l k).length ≤ k := by
  induction k with
  | zero => simp [wants]
  | succ k ih => simp only [wants, List.length_append]; split <;> simp <;> omega

theorem wants_mem (l : List (Int × Int)) (k : Nat) (n : Int) : n ∈ wants l k ↔ 1 ≤ n ∧ n ≤ k ∧ firstEnd l n = some true := by
  induction k with
  | zero => simp [wants]; omega
  | succ k ih =>
    rw [wants, List.mem_append, ih]
    by_cases e : firstEnd l ((k : Int) + 1) = some true
    · simp only [e, BEq.rfl, if_true, List.mem_singleton]
      constructor
      · rintro (⟨a, b, c⟩ | rfl)
        · exact ⟨a, by omega, c⟩
        · exact ⟨by omega, by omega, e⟩
      · rintro ⟨a, b, c⟩
        by_cases hn : n = (k : Int) + 1
        · exact .inr hn
        · exact .inl ⟨a, by omega, c⟩
    · have : (firstEnd l ((k : Int) + 1) == some true) = false := by simpa using e
      rw [this]
      simp
      intro a c
      have : n ≠ (k : Int) + 1 := fun e' => e (e' ▸ c)
      omega

theorem wants_sorted (l : List (Int × Int)) (k : Nat) : (wants l k).Pairwise (· < ·) := by
  induction k with
  | zero => simp [wants]
  | succ k ih =>
    rw [wants, List.pairwise_append]
    refine ⟨ih, by split <;> simp, fun a ha b hb => ?_⟩
    have := (wants_mem l k a).1 ha
    split at hb
    · obtain rfl := List.mem_singleton.1 hb
      omega
    · simp at hb

theorem pw_mono {α : Type} {R S : α → α → Prop} (h : ∀ a b, R a b → S a b) {l : List α} (hl : l.Pairwise R) : l.Pairwise S := by
  induction l with
  | nil => exact List.Pairwise.nil
  | cons a l ih =>
    rw [List.pairwise_cons] at hl ⊢
    exact ⟨fun b hb => h _ _ (hl.1 b hb), ih hl.2⟩

/-- THE LAW: the gathered numbers, sorted, are the wanted ones. -/
theorem exact_law {l txns ends ops} (h : Inv l txns ends ops) (hl : ∀ s ∈ l, 0 ≤ s.2 ∧ s.2 ≤ 255) :
    (gathered txns ends ops txns.length).mergeSort (fun x y => decide (x ≤ y)) = wants l 256 := by
  rw [gathered_eq h _ (Nat.le_refl _), List.take_length]
  have hs : ((txns.filter fun n => firstEnd l n == some true).mergeSort fun x y => decide (x ≤ y)).Pairwise (· ≤ ·) := by
    have := List.pairwise_mergeSort (le := fun x y : Int => decide (x ≤ y)) (fun a b c => by simp; omega) (fun a b => by simp; omega) (txns.filter fun n => firstEnd l n == some true)
    exact pw_mono (by simp) this
  have hp : ((txns.filter fun n => firstEnd l n == some true).mergeSort fun x y => decide (x ≤ y)).Perm (wants l 256) := by
    refine (List.mergeSort_perm _ _).trans ?_
    rw [List.perm_ext_iff_of_nodup (h.nodup.filter _) (pw_mono (fun _ _ h => by omega) (wants_sorted l 256))]
    intro n
    rw [List.mem_filter, wants_mem, h.mem]
    constructor
    · rintro ⟨⟨s, hs, e⟩, c⟩
      have := hl s hs
      exact ⟨by omega, by omega, by simpa using c⟩
    · rintro ⟨_, _, c⟩
      exact ⟨firstEnd_mem c, by simpa using c⟩
  exact hp.eq_of_pairwise (le := (· ≤ ·)) (fun a b _ _ h1 h2 => by omega) hs (pw_mono (fun _ _ h => by omega) (wants_sorted l 256))

end Go.Proofs.Ybulkri.BP
