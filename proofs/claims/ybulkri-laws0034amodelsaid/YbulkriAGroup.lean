/-
  LawS0034AModel: groupPairs, plainly: pairs grouped by their keys.
-/
namespace Go.Proofs.Ybulkri.A

/-- the values under key k -/
def grp (xs : List (Nat × Nat)) (k : Nat) : List Nat := (xs.filter fun p => decide (p.1 = k)).map (·.2)

/-- where key k's values begin -/
def off (xs : List (Nat × Nat)) (j : Nat) : Nat := (xs.filter fun p => decide (p.1 < j)).length

theorem grp_snoc (xs : List (Nat × Nat)) (a b k : Nat) : grp (xs ++ [(a, b)]) k = grp xs k ++ (if a = k then [b] else []) := by
  unfold grp
  rw [List.filter_append, List.map_append]
  by_cases h : a = k <;> simp [h]

theorem off_zero (xs : List (Nat × Nat)) : off xs 0 = 0 := by simp [off]

theorem off_succ (xs : List (Nat × Nat)) (j : Nat) : off xs (j + 1) = off xs j + (grp xs j).length := by
  induction xs with
  | nil => simp [off, grp]
  | cons p xs ih =>
    simp only [off, grp, List.length_map] at ih ⊢
    simp only [List.filter_cons]
    simp only [decide_eq_true_eq]
    by_cases h1 : p.1 < j
    · rw [if_pos h1, if_pos (show p.1 < j + 1 by omega), if_neg (show ¬ p.1 = j by omega)]
      simp only [List.length_cons]
      omega
    · by_cases h3 : p.1 = j
      · rw [if_neg h1, if_pos (show p.1 < j + 1 by omega), if_pos h3]
        simp only [List.length_cons]
        omega
      · rw [if_neg h1, if_neg (show ¬ p.1 < j + 1 by omega), if_neg h3]
        omega

theorem off_mono (xs : List (Nat × Nat)) {i j : Nat} (h : i ≤ j) : off xs i ≤ off xs j := by
  induction j with
  | zero => obtain rfl : i = 0 := by omega
            exact Nat.le_refl _
  | succ j ih =>
    by_cases e : i = j + 1
    · subst e; exact Nat.le_refl _
    · have := ih (by omega)
      rw [off_succ]
      omega

theorem off_le (xs : List (Nat × Nat)) (j : Nat) : off xs j ≤ xs.length := List.length_filter_le _ _

theorem off_all {xs : List (Nat × Nat)} {n : Nat} (h : ∀ p ∈ xs, p.1 < n) : off xs n = xs.length := by
  unfold off
  rw [List.filter_eq_self.2 (fun p hp => by simpa using h p hp)]

theorem grp_prefix {pre xs : List (Nat × Nat)} (h : pre <+: xs) (k : Nat) : (grp pre k).length ≤ (grp xs k).length := by
  obtain ⟨t, rfl⟩ := h
  simp only [grp, List.filter_append, List.map_append, List.length_append]
  omega

theorem getD_set {α : Type} (st : List α) (i j : Nat) (v d : α) (hi : i < st.length) : (st.set i v).getD j d = if j = i then v else st.getD j d := by
  by_cases e : j = i
  · subst e
    simp [List.getD_eq_getElem?_getD, hi]
  · rw [if_neg e]
    simp only [List.getD_eq_getElem?_getD, List.getElem?_set]
    rw [if_neg (Ne.symm e)]

/-- the counts: the first loop -/
structure S1 (n : Nat) (pre : List (Nat × Nat)) (st : List Int) : Prop where
  len : st.length = n + 1
  at' : ∀ j, j ≤ n → st.getD j 0 = if j = 0 then 0 else ((grp pre (j - 1)).length : Int)

theorem S1.start (n : Nat) : S1 n [] (List.replicate (n + 1) 0) := by
  refine ⟨by simp, fun j hj => ?_⟩
  simp [List.getD_eq_getElem?_getD, show j < n + 1 by omega, grp]

theorem S1.step {n : Nat} {pre : List (Nat × Nat)} {st : List Int} (h : S1 n pre st) {k v : Nat} (hk : k < n) : S1 n (pre ++ [(k, v)]) (st.set (k + 1) (st.getD (k + 1) 0 + 1)) := by
  refine ⟨by simp [h.len], fun j hj => ?_⟩
  rw [getD_set _ _ _ _ _ (by have := h.len; omega), grp_snoc]
  by_cases e : j = k + 1
  · subst e
    rw [if_pos rfl, h.at' _ hj]
    simp
  · rw [if_neg e, h.at' _ hj]
    by_cases z : j = 0
    · simp [z]
    · rw [if_neg z, if_neg z, if_neg (by omega)]
      simp

/-- the sums: the loop between -/
structure S2 (n : Nat) (xs : List (Nat × Nat)) (k : Nat) (st : List Int) : Prop where
  len : st.length = n + 1
  at' : ∀ j, j ≤ n → st.getD j 0 = if j ≤ k then (off xs j : Int) else ((grp xs (j - 1)).length : Int)

theorem S1.sums {n : Nat} {xs : List (Nat × Nat)} {st : List Int} (h : S1 n xs st) : S2 n xs 0 st := by
  refine ⟨h.len, fun j hj => ?_⟩
  rw [h.at' j hj]
  by_cases z : j = 0
  · simp [z, off_zero]
  · rw [if_neg z, if_neg (by omega)]

theorem S2.step {n : Nat} {xs : List (Nat × Nat)} {k : Nat} {st : List Int} (h : S2 n xs k st) (hk : k < n) : S2 n xs (k + 1) (st.set (k + 1) (st.getD (k + 1) 0 + st.getD k 0)) := by
  refine ⟨by simp [h.len], fun j hj => ?_⟩
  rw [getD_set _ _ _ _ _ (by have := h.len; omega)]
  by_cases e : j = k + 1
  · subst e
    rw [if_pos rfl, h.at' _ hj, h.at' k (by omega), if_neg (by omega), if_pos (Nat.le_refl _), if_pos (Nat.le_refl _), off_succ]
    simp only [Nat.add_sub_cancel]
    omega
  · rw [if_neg e, h.at' _ hj]
    by_cases z : j ≤ k
    · rw [if_pos z, if_pos (by omega)]
    · rw [if_neg z, if_neg (by omega)]

/-- the values: the second loop -/
structure S3 (n : Nat) (xs pre : List (Nat × Nat)) (st vs : List Int) : Prop where
  len : st.length = n + 1
  at' : ∀ j, j < n → st.getD j 0 = (off xs j + (grp pre j).length : Nat)
  vlen : vs.length = xs.length
  val : ∀ j, j < n → ∀ i, i < (grp pre j).length → vs.getD (off xs j + i) 0 = ((grp pre j).getD i 0 : Nat)

theorem S2.last {n : Nat} {xs : List (Nat × Nat)} {st : List Int} (h : S2 n xs n st) : st.getD n 0 = (off xs n : Int) := by
  rw [h.at' n (Nat.le_refl _), if_pos (Nat.le_refl _)]

theorem S2.vals {n : Nat} {xs : List (Nat × Nat)} {st : List Int} (h : S2 n xs n st) : S3 n xs [] st (List.replicate xs.length 0) := by
  refine ⟨h.len, fun j hj => ?_, by simp, fun j hj i hi => by simp [grp] at hi⟩
  rw [h.at' j (by omega), if_pos (by omega)]
  simp [grp]

theorem room {xs pre : List (Nat × Nat)} {k v : Nat} (hp : pre ++ [(k, v)] <+: xs) : off xs k + (grp pre k).length < off xs (k + 1) := by
  have := grp_prefix hp k
  rw [grp_snoc, if_pos rfl] at this
  rw [off_succ]
  simp only [List.length_append, List.length_cons, List.length_nil] at this
  omega

theorem S3.step {n : Nat} {xs pre : List (Nat × Nat)} {st vs : List Int} (h : S3 n xs pre st vs) {k v : Nat} (hk : k < n) (hp : pre ++ [(k, v)] <+: xs) :
    S3 n xs (pre ++ [(k, v)]) (st.set k (st.getD k 0 + 1)) (vs.set (off xs k + (grp pre k).length) (v : Int)) := by
  have hroom := room hp
  have hle := off_le xs (k + 1)
  refine ⟨by simp [h.len], fun j hj => ?_, by simp [h.vlen], fun j hj i hi => ?_⟩
  · rw [getD_set _ _ _ _ _ (by have := h.len; omega), grp_snoc]
    by_cases e : j = k
    · subst e
      rw [if_pos rfl, h.at' _ hj]
      simp
      omega
    · rw [if_neg e, h.at' _ hj, if_neg (fun c => e c.symm)]
      simp
  · rw [getD_set _ _ _ _ _ (by rw [h.vlen]; omega)]
    rw [grp_snoc] at hi ⊢
    by_cases e : j = k
    · subst e
      rw [if_pos rfl] at hi ⊢
      simp only [List.length_append, List.length_cons, List.length_nil] at hi
      by_cases ei : i = (grp pre j).length
      · subst ei
        rw [if_pos rfl]
        simp [List.getD_eq_getElem?_getD]
      · rw [if_neg (by omega), h.val j hj i (by omega)]
        simp only [List.getD_eq_getElem?_getD]
        rw [List.getElem?_append_left (by omega)]
    · have e' : ¬ k = j := fun c => e c.symm
      simp only [if_neg e', List.append_nil] at hi ⊢
      have hpre : pre <+: xs := (List.prefix_append pre [(k, v)]).trans hp
      have h1 := grp_prefix hpre j
      have h2 := off_succ xs j
      rw [if_neg, h.val j hj i hi]
      intro c
      rcases Nat.lt_or_ge j k with c1 | c1
      · have := off_mono xs (show j + 1 ≤ k by omega)
        omega
      · have := off_mono xs (show k + 1 ≤ j by omega)
        omega

/-- what groupPairs leaves -/
structure Grp (n : Nat) (xs : List (Nat × Nat)) (st vs : List Int) : Prop where
  len : st.length = n + 1
  at' : ∀ j, j ≤ n → st.getD j 0 = (off xs j : Int)
  vlen : vs.length = xs.length
  val : ∀ j, j < n → ∀ i, i < (grp xs j).length → vs.getD (off xs j + i) 0 = ((grp xs j).getD i 0 : Nat)

theorem S3.done {n : Nat} {xs : List (Nat × Nat)} {st vs : List Int} (h : S3 n xs xs st vs) : Grp n xs (0 :: st.take n) vs := by
  refine ⟨by simp [h.len], fun j hj => ?_, h.vlen, h.val⟩
  cases j with
  | zero => simp [off_zero]
  | succ j =>
    have := h.at' j (by omega)
    rw [off_succ, ← this]
    simp only [List.getD_eq_getElem?_getD, List.getElem?_cons_succ, List.getElem?_take]
    rw [if_pos (by omega)]

theorem mem_grp {xs : List (Nat × Nat)} {k v : Nat} : v ∈ grp xs k ↔ (k, v) ∈ xs := by
  simp only [grp, List.mem_map, List.mem_filter, decide_eq_true_eq]
  constructor
  · rintro ⟨⟨a, b⟩, ⟨h, rfl⟩, rfl⟩
    exact h
  · intro h
    exact ⟨(k, v), ⟨h, rfl⟩, rfl⟩
end Go.Proofs.Ybulkri.A
