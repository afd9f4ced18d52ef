/-
  PLAIN: order statistics of a list of integers. No Go in sight.
-/
namespace Go.Proofs.Ybulksy.QP

def srt (zs : List Int) : List Int := zs.mergeSort fun x y => decide (x ≤ y)
def less (zs : List Int) (v : Int) : Nat := zs.countP fun w => decide (w < v)
def leq (zs : List Int) (v : Int) : Nat := zs.countP fun w => decide (w ≤ v)

theorem srt_perm (zs : List Int) : (srt zs).Perm zs := List.mergeSort_perm _ _
theorem srt_length (zs : List Int) : (srt zs).length = zs.length := (srt_perm zs).length_eq
theorem srt_mono (zs : List Int) : ∀ i j, (hi : i < (srt zs).length) → (hj : j < (srt zs).length) → i ≤ j → (srt zs)[i] ≤ (srt zs)[j] := by
  intro i j hi hj hij
  have hp := List.pairwise_mergeSort (le := fun x y : Int => decide (x ≤ y)) (fun a b c => by simp; omega) (fun a b => by simp; omega) zs
  rw [List.pairwise_iff_getElem] at hp
  by_cases e : i = j
  · subst e; exact Int.le_refl _
  · exact of_decide_eq_true (hp i j hi hj (by omega))

theorem less_take (l : List Int) (v : Int) (k : Nat) (hk : k < l.length) : less (l.take (k + 1)) v = less (l.take k) v + if l.getD k 0 < v then 1 else 0 := by
  rw [List.take_succ_eq_append_getElem hk]
  simp only [less, List.countP_append, List.countP_cons, List.countP_nil, List.getD_eq_getElem?_getD, List.getElem?_eq_getElem hk, Option.getD_some]
  simp
theorem leq_take (l : List Int) (v : Int) (k : Nat) (hk : k < l.length) : leq (l.take (k + 1)) v = leq (l.take k) v + if l.getD k 0 ≤ v then 1 else 0 := by
  rw [List.take_succ_eq_append_getElem hk]
  simp only [leq, List.countP_append, List.countP_cons, List.countP_nil, List.getD_eq_getElem?_getD, List.getElem?_eq_getElem hk, Option.getD_some]
  simp
theorem less_le (l : List Int) (v : Int) : less l v ≤ l.length := List.countP_le_length
theorem leq_le (l : List Int) (v : Int) : leq l v ≤ l.length := List.countP_le_length

theorem less_srt (zs : List Int) (v : Int) : less (srt zs) v = less zs v := (srt_perm zs).countP_eq _
theorem leq_srt (zs : List Int) (v : Int) : leq (srt zs) v = leq zs v := (srt_perm zs).countP_eq _

section
variable {zs : List Int} {h : Nat}

/-- the h-th smallest -/
theorem stat_at (h1 : 1 ≤ h) (h2 : h ≤ zs.length) : ∃ hx : h - 1 < (srt zs).length, (srt zs).getD (h - 1) 0 = (srt zs)[h - 1] := by
  have hx : h - 1 < (srt zs).length := by rw [srt_length]; omega
  exact ⟨hx, by simp [List.getD_eq_getElem?_getD, List.getElem?_eq_getElem hx]⟩

theorem take_le (h1 : 1 ≤ h) (h2 : h ≤ zs.length) : ∀ a ∈ (srt zs).take h, a ≤ (srt zs).getD (h - 1) 0 := by
  obtain ⟨hx, e⟩ := stat_at h1 h2
  intro a ha
  obtain ⟨i, hi, rfl⟩ := List.mem_iff_getElem.1 ha
  have hi' : i < h := by simp at hi; omega
  rw [e, List.getElem_take]
  exact srt_mono zs i (h - 1) _ hx (by omega)

theorem drop_ge (h1 : 1 ≤ h) (h2 : h ≤ zs.length) : ∀ a ∈ (srt zs).drop (h - 1), (srt zs).getD (h - 1) 0 ≤ a := by
  obtain ⟨hx, e⟩ := stat_at h1 h2
  intro a ha
  obtain ⟨i, hi, rfl⟩ := List.mem_iff_getElem.1 ha
  rw [e, List.getElem_drop]
  exact srt_mono zs (h - 1) (h - 1 + i) hx _ (by omega)

theorem stat_unique (h1 : 1 ≤ h) (h2 : h ≤ zs.length) (v : Int) (hl : less zs v < h) (hg : h ≤ leq zs v) : (srt zs).getD (h - 1) 0 = v := by
  rw [← less_srt] at hl
  rw [← leq_srt] at hg
  have hlen := srt_length zs
  have ht := take_le h1 h2
  have hd := drop_ge h1 h2
  by_cases c1 : (srt zs).getD (h - 1) 0 < v
  · exfalso
    have e : less ((srt zs).take h) v = h := by
      have : less ((srt zs).take h) v = ((srt zs).take h).length := List.countP_eq_length.2 (fun a ha => by have := ht a ha; simp; omega)
      rw [this]; simp; omega
    have : less (srt zs) v = less ((srt zs).take h) v + less ((srt zs).drop h) v := by
      rw [less, less, less, ← List.countP_append, List.take_append_drop]
    omega
  · by_cases c2 : v < (srt zs).getD (h - 1) 0
    · exfalso
      have e : leq ((srt zs).drop (h - 1)) v = 0 := List.countP_eq_zero.2 (fun a ha => by have := hd a ha; simp; omega)
      have e2 : leq ((srt zs).take (h - 1)) v ≤ h - 1 := by
        have := leq_le ((srt zs).take (h - 1)) v
        simp at this; omega
      have : leq (srt zs) v = leq ((srt zs).take (h - 1)) v + leq ((srt zs).drop (h - 1)) v := by
        rw [leq, leq, leq, ← List.countP_append, List.take_append_drop]
      omega
    · omega

theorem stat_is (h1 : 1 ≤ h) (h2 : h ≤ zs.length) : (srt zs).getD (h - 1) 0 ∈ zs ∧ less zs ((srt zs).getD (h - 1) 0) < h ∧ h ≤ leq zs ((srt zs).getD (h - 1) 0) := by
  have ht := take_le h1 h2
  have hd := drop_ge h1 h2
  have hlen := srt_length zs
  have hmem : (srt zs).getD (h - 1) 0 ∈ zs := by
    obtain ⟨hx, e⟩ := stat_at h1 h2
    rw [e]
    exact (srt_perm zs).mem_iff.1 (List.getElem_mem hx)
  generalize (srt zs).getD (h - 1) 0 = x at *
  refine ⟨hmem, ?_, ?_⟩
  · rw [← less_srt]
    have e : less ((srt zs).drop (h - 1)) x = 0 := List.countP_eq_zero.2 (fun a ha => by have := hd a ha; simp; omega)
    have e2 : less ((srt zs).take (h - 1)) x ≤ h - 1 := by
      have := less_le ((srt zs).take (h - 1)) x
      simp at this; omega
    have : less (srt zs) x = less ((srt zs).take (h - 1)) x + less ((srt zs).drop (h - 1)) x := by
      rw [less, less, less, ← List.countP_append, List.take_append_drop]
    omega
  · rw [← leq_srt]
    have e : leq ((srt zs).take h) x = h := by
      have : leq ((srt zs).take h) x = ((srt zs).take h).length := List.countP_eq_length.2 (fun a ha => by have := ht a ha; simp; omega)
      rw [this]; simp; omega
    have : leq (srt zs) x = leq ((srt zs).take h) x + leq ((srt zs).drop h) x := by
      rw [leq, leq, leq, ← List.countP_append, List.take_append_drop]
    omega

/-- some place of the list answers -/
theorem stat_found (h1 : 1 ≤ h) (h2 : h ≤ zs.length) : ∃ j, j < zs.length ∧ less zs (zs.getD j 0) < h ∧ h ≤ leq zs (zs.getD j 0) := by
  obtain ⟨hm, ha, hb⟩ := stat_is h1 h2
  obtain ⟨j, hj, e⟩ := List.mem_iff_getElem.1 hm
  have : zs.getD j 0 = (srt zs).getD (h - 1) 0 := by rw [← e]; simp [List.getD_eq_getElem?_getD, List.getElem?_eq_getElem hj]
  exact ⟨j, hj, by rw [this]; exact ha, by rw [this]; exact hb⟩
end

/-- how often v stands in the list -/
def cnt (zs : List Int) (v : Int) : Nat := zs.countP fun w => w == v
theorem cnt_take (l : List Int) (v : Int) (k : Nat) (hk : k < l.length) : cnt (l.take (k + 1)) v = cnt (l.take k) v + if l.getD k 0 = v then 1 else 0 := by
  rw [List.take_succ_eq_append_getElem hk]
  simp only [cnt, List.countP_append, List.countP_cons, List.countP_nil, List.getD_eq_getElem?_getD, List.getElem?_eq_getElem hk, Option.getD_some]
  simp
theorem cnt_le (l : List Int) (v : Int) : cnt l v ≤ l.length := List.countP_le_length
theorem cnt_srt (zs : List Int) (v : Int) : cnt (srt zs) v = cnt zs v := (srt_perm zs).countP_eq _
theorem srt_step (zs : List Int) (k : Nat) (hk : k + 1 < zs.length) : (srt zs).getD k 0 ≤ (srt zs).getD (k + 1) 0 := by
  have hl := srt_length zs
  have := srt_mono zs k (k + 1) (by omega) (by omega) (by omega)
  simpa [List.getD_eq_getElem?_getD, List.getElem?_eq_getElem (show k < (srt zs).length by omega), List.getElem?_eq_getElem (show k + 1 < (srt zs).length by omega)] using this

end Go.Proofs.Ybulksy.QP
