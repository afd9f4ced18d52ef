/-
  LawS0034AModel: the plain side. The two readings of the locks agree.
-/
namespace Go.Proofs.Ybulkri.A

/-- how many of 0 .. n-1 -/
def cnt (p : Nat → Bool) : Nat → Int
  | 0 => 0
  | n + 1 => cnt p n + if p n then 1 else 0

theorem cnt_nonneg (p : Nat → Bool) (n : Nat) : 0 ≤ cnt p n := by
  induction n with
  | zero => simp [cnt]
  | succ n ih => simp only [cnt]; split <;> omega

theorem cnt_congr {p q : Nat → Bool} {n : Nat} (h : ∀ u, u < n → p u = q u) : cnt p n = cnt q n := by
  induction n with
  | zero => rfl
  | succ n ih => simp only [cnt]; rw [ih (fun u hu => h u (by omega)), h n (by omega)]

/-- one of them turns -/
theorem cnt_turn {p q : Nat → Bool} {n t : Nat} (ht : t < n) (h : ∀ u, u ≠ t → p u = q u) : cnt q n = cnt p n - (if p t then 1 else 0) + (if q t then 1 else 0) := by
  induction n with
  | zero => omega
  | succ n ih =>
    simp only [cnt]
    by_cases e : t = n
    · subst e
      rw [cnt_congr (fun u hu => h u (by omega))]
      omega
    · rw [ih (by omega), h n (by omega)]
      omega

/-- is there another -/
theorem cnt_others {p : Nat → Bool} {n t : Nat} (ht : t < n) : 0 < cnt p n - (if p t then 1 else 0) ↔ ∃ u, u < n ∧ u ≠ t ∧ p u = true := by
  have h0 : ∀ m, (0 < cnt (fun u => p u && decide (u ≠ t)) m) ↔ ∃ u, u < m ∧ u ≠ t ∧ p u = true := by
    intro m
    induction m with
    | zero => simp [cnt]
    | succ m ih =>
      have hn := cnt_nonneg (fun u => p u && decide (u ≠ t)) m
      simp only [cnt]
      constructor
      · intro h
        by_cases c : (p m && decide (m ≠ t)) = true
        · simp only [Bool.and_eq_true, decide_eq_true_eq] at c
          exact ⟨m, by omega, c.2, c.1⟩
        · rw [if_neg c] at h
          obtain ⟨u, h1, h2, h3⟩ := ih.1 (by omega)
          exact ⟨u, by omega, h2, h3⟩
      · rintro ⟨u, h1, h2, h3⟩
        by_cases e : u = m
        · subst e
          rw [if_pos (by simp [h2, h3])]
          omega
        · have := ih.2 ⟨u, by omega, h2, h3⟩
          split <;> omega
  rw [← h0 n, cnt_turn (p := p) (q := fun u => p u && decide (u ≠ t)) ht (by intro u hu; simp [hu])]
  simp

theorem cnt_own {p : Nat → Bool} {n t : Nat} (ht : t < n) : 0 ≤ cnt p n - (if p t then 1 else 0) := by
  have := cnt_nonneg (fun u => p u && decide (u ≠ t)) n
  rw [cnt_turn (p := p) ht (by intro u hu; simp [hu])] at this
  simpa using this

/-- the model's state: the lock held by transaction t on item x; who has unlocked; the first break of each rule -/
structure MS where
  m : Nat → Nat → Int
  u : Nat → Bool
  f : Nat → Int

def put (m : Nat → Nat → Int) (t x : Nat) (v : Int) : Nat → Nat → Int := fun t' x' => if t' = t ∧ x' = x then v else m t' x'
def putB (u : Nat → Bool) (t : Nat) (v : Bool) : Nat → Bool := fun t' => if t' = t then v else u t'
def putI (u : Nat → Int) (t : Nat) (v : Int) : Nat → Int := fun t' => if t' = t then v else u t'

/-- is there another transaction than t with one of two locks on x -/
def other (nT : Nat) (m : Nat → Nat → Int) (t x : Nat) (a b : Int) : Bool := (List.range nT).any fun u => decide (u ≠ t) && (decide (m u x = a) || decide (m u x = b))

/-- the rules that an operation breaks -/
def bits (nT : Nat) (s : MS) (kd : Int) (t x : Nat) (r : Nat) : Bool :=
  if kd = 1 then decide (r = 1) && (decide (s.m t x ≠ 1) && decide (s.m t x ≠ 2))
  else if kd = 2 then decide (r = 1) && decide (s.m t x ≠ 2)
  else if kd = 5 then (decide (r = 1) && decide (s.m t x ≠ 0)) || (decide (r = 2) && other nT s.m t x 2 2) || (decide (r = 3) && s.u t)
  else if kd = 6 then (decide (r = 1) && decide (s.m t x = 2)) || (decide (r = 2) && other nT s.m t x 1 2) || (decide (r = 3) && s.u t)
  else (decide (r = 1) && decide (s.m t x = 0)) || (decide (r = 4) && decide (s.m t x = 2)) || (decide (r = 5) && (decide (s.m t x = 1) || decide (s.m t x = 2)))

/-- the lock behind an operation -/
def after (kd : Int) (v : Int) : Int := if kd = 5 then (if v = 0 then 1 else v) else if kd = 6 then 2 else if kd = 7 then 0 else v

def newf (f : Nat → Int) (b : Nat → Bool) (i : Nat) : Nat → Int := fun r => if b r = true ∧ f r < 0 then (i : Int) else f r

def mstep (nT nX : Nat) (s : MS) (i : Nat) (o : Int × Int × Int) : MS :=
  if o.1 = 3 ∨ o.1 = 4 then { s with m := fun t' x' => if t' = o.2.1.toNat ∧ x' < nX ∧ s.m t' x' ≠ 0 then 3 else s.m t' x' }
  else { m := put s.m o.2.1.toNat o.2.2.toNat (after o.1 (s.m o.2.1.toNat o.2.2.toNat)), u := if o.1 = 7 then putB s.u o.2.1.toNat true else s.u, f := newf s.f (bits nT s o.1 o.2.1.toNat o.2.2.toNat) i }

def mrun (nT nX : Nat) (ops : List (Int × Int × Int)) : Nat → MS
  | 0 => { m := fun _ _ => 0, u := fun _ => false, f := fun _ => -1 }
  | i + 1 => mstep nT nX (mrun nT nX ops i) i (ops.getD i (0, 0, 0))

/-- the table of spans: span k is of transaction tx k and item it k -/
structure Tab (nk nT nX : Nat) (tx it : Nat → Nat) : Prop where
  tlt : ∀ k, k < nk → tx k < nT
  ilt : ∀ k, k < nk → it k < nX
  inj : ∀ k k', k < nk → k' < nk → tx k = tx k' → it k = it k' → k = k'

/-- what CheckLocks keeps, beside the model's locks -/
structure Rel (nk nT nX : Nat) (tx it : Nat → Nat) (m : Nat → Nat → Int) (md sh ex : Nat → Int) : Prop where
  md : ∀ k, k < nk → md k = m (tx k) (it k)
  zero : ∀ t x, t < nT → x < nX → (∀ k, k < nk → ¬ (tx k = t ∧ it k = x)) → m t x = 0
  sh : ∀ x, x < nX → sh x = cnt (fun u => decide (m u x = 1)) nT
  ex : ∀ x, x < nX → ex x = cnt (fun u => decide (m u x = 2)) nT

section
variable {nk nT nX : Nat} {tx it : Nat → Nat} {m m' : Nat → Nat → Int} {md sh ex : Nat → Int}

theorem Rel.congr (h : Rel nk nT nX tx it m md sh ex) (ht : Tab nk nT nX tx it) (hm : ∀ t x, t < nT → x < nX → m t x = m' t x) : Rel nk nT nX tx it m' md sh ex :=
  ⟨fun k hk => (h.md k hk).trans (hm _ _ (ht.tlt k hk) (ht.ilt k hk)), fun t x h1 h2 h3 => (hm t x h1 h2).symm.trans (h.zero t x h1 h2 h3),
   fun x hx => (h.sh x hx).trans (cnt_congr fun u hu => by rw [hm u x hu hx]), fun x hx => (h.ex x hx).trans (cnt_congr fun u hu => by rw [hm u x hu hx])⟩

/-- 'hold(k, v)' -/
theorem Rel.hold (h : Rel nk nT nX tx it m md sh ex) (ht : Tab nk nT nX tx it) {k : Nat} (hk : k < nk) (v : Int) :
    Rel nk nT nX tx it (put m (tx k) (it k) v) (putI md k v) (putI sh (it k) (sh (it k) - (if md k = 1 then 1 else 0) + (if v = 1 then 1 else 0))) (putI ex (it k) (ex (it k) - (if md k = 2 then 1 else 0) + (if v = 2 then 1 else 0))) := by
  refine ⟨fun j hj => ?_, fun t x h1 h2 h3 => ?_, fun x hx => ?_, fun x hx => ?_⟩
  · unfold putI put
    by_cases e : j = k
    · subst e; simp
    · rw [if_neg e, if_neg (fun c => e (ht.inj j k hj hk c.1 c.2))]
      exact h.md j hj
  · unfold put
    rw [if_neg (fun c => h3 k hk ⟨c.1.symm, c.2.symm⟩)]
    exact h.zero t x h1 h2 h3
  · unfold putI
    by_cases e : x = it k
    · subst e
      rw [if_pos rfl, h.sh _ (ht.ilt k hk), h.md k hk, cnt_turn (p := fun u => decide (m u (it k) = 1)) (q := fun u => decide (put m (tx k) (it k) v u (it k) = 1)) (ht.tlt k hk) (by intro u hu; simp [put, hu])]
      simp [put]
    · rw [if_neg e, h.sh x hx]
      exact cnt_congr fun u hu => by simp [put, e]
  · unfold putI
    by_cases e : x = it k
    · subst e
      rw [if_pos rfl, h.ex _ (ht.ilt k hk), h.md k hk, cnt_turn (p := fun u => decide (m u (it k) = 2)) (q := fun u => decide (put m (tx k) (it k) v u (it k) = 2)) (ht.tlt k hk) (by intro u hu; simp [put, hu])]
      simp [put]
    · rw [if_neg e, h.ex x hx]
      exact cnt_congr fun u hu => by simp [put, e]

theorem other_iff {t x : Nat} {a b : Int} : other nT m t x a b = true ↔ ∃ u, u < nT ∧ u ≠ t ∧ (m u x = a ∨ m u x = b) := by
  simp only [other, List.any_eq_true, List.mem_range, Bool.and_eq_true, Bool.or_eq_true, decide_eq_true_eq]

/-- the exclusive locks of others -/
theorem Rel.othersEx (h : Rel nk nT nX tx it m md sh ex) (ht : Tab nk nT nX tx it) {k : Nat} (hk : k < nk) :
    decide (0 < ex (it k) - (if md k = 2 then 1 else 0)) = other nT m (tx k) (it k) 2 2 := by
  have := cnt_others (p := fun u => decide (m u (it k) = 2)) (ht.tlt k hk)
  rw [Bool.eq_iff_iff, decide_eq_true_eq, other_iff, h.ex _ (ht.ilt k hk), h.md k hk]
  simp only [decide_eq_true_eq] at this
  rw [this]
  simp

/-- the locks of others -/
theorem Rel.othersAll (h : Rel nk nT nX tx it m md sh ex) (ht : Tab nk nT nX tx it) {k : Nat} (hk : k < nk) (h3 : md k = 0 ∨ md k = 1 ∨ md k = 2) :
    decide (0 < sh (it k) + ex (it k) - (if md k ≠ 0 then 1 else 0)) = other nT m (tx k) (it k) 1 2 := by
  have e1 := cnt_others (p := fun u => decide (m u (it k) = 1)) (ht.tlt k hk)
  have e2 := cnt_others (p := fun u => decide (m u (it k) = 2)) (ht.tlt k hk)
  have n1 := cnt_nonneg (fun u => decide (m u (it k) = 1)) nT
  have n2 := cnt_nonneg (fun u => decide (m u (it k) = 2)) nT
  have g1 := cnt_own (p := fun u => decide (m u (it k) = 1)) (ht.tlt k hk)
  have g2 := cnt_own (p := fun u => decide (m u (it k) = 2)) (ht.tlt k hk)
  rw [Bool.eq_iff_iff, decide_eq_true_eq, other_iff, h.ex _ (ht.ilt k hk), h.sh _ (ht.ilt k hk), h.md k hk]
  rw [h.md k hk] at h3
  simp only [decide_eq_true_eq] at e1 e2 g1 g2
  have hsum : (cnt (fun u => decide (m u (it k) = 1)) nT + cnt (fun u => decide (m u (it k) = 2)) nT - (if m (tx k) (it k) ≠ 0 then 1 else 0)) =
      (cnt (fun u => decide (m u (it k) = 1)) nT - (if m (tx k) (it k) = 1 then 1 else 0)) + (cnt (fun u => decide (m u (it k) = 2)) nT - (if m (tx k) (it k) = 2 then 1 else 0)) := by
    rcases h3 with c | c | c <;> rw [c] <;> simp <;> omega
  rw [hsum]
  constructor
  · intro hp
    by_cases c : 0 < cnt (fun u => decide (m u (it k) = 1)) nT - (if m (tx k) (it k) = 1 then 1 else 0)
    · obtain ⟨u, a1, a2, a3⟩ := e1.1 c
      exact ⟨u, a1, a2, .inl a3⟩
    · obtain ⟨u, a1, a2, a3⟩ := e2.1 (by omega)
      exact ⟨u, a1, a2, .inr a3⟩
  · rintro ⟨u, a1, a2, a3 | a3⟩
    · have := e1.2 ⟨u, a1, a2, a3⟩
      omega
    · have := e2.2 ⟨u, a1, a2, a3⟩
      omega

/-- the locks when the spans ks of transaction t have been let go at its end -/
def part (m : Nat → Nat → Int) (it : Nat → Nat) (t : Nat) (ks : List Nat) : Nat → Nat → Int := fun t' x' => if t' = t ∧ ks.any (fun k => decide (it k = x')) = true ∧ m t' x' ≠ 0 then 3 else m t' x'

theorem part_zero (t' x' t : Nat) (ks : List Nat) : part m it t ks t' x' = 0 ↔ m t' x' = 0 := by
  unfold part
  split
  · rename_i c
    constructor
    · intro h; omega
    · intro h; exact absurd h c.2.2
  · exact Iff.rfl

theorem Rel.end1 {t k : Nat} {ks : List Nat} (h : Rel nk nT nX tx it (part m it t ks) md sh ex) (ht : Tab nk nT nX tx it) (hk : k < nk) (htk : tx k = t) (hne : md k ≠ 0) :
    Rel nk nT nX tx it (part m it t (ks ++ [k])) (putI md k 3) (putI sh (it k) (sh (it k) - (if md k = 1 then 1 else 0) + (if (3 : Int) = 1 then 1 else 0))) (putI ex (it k) (ex (it k) - (if md k = 2 then 1 else 0) + (if (3 : Int) = 2 then 1 else 0))) := by
  refine (h.hold ht hk 3).congr ht fun t' x' _ _ => ?_
  have hm : m t (it k) ≠ 0 := by
    intro c
    exact hne ((h.md k hk).trans (by rw [htk]; exact (part_zero t (it k) t ks).2 c))
  subst htk
  unfold put part
  by_cases e : t' = tx k ∧ x' = it k
  · obtain ⟨rfl, rfl⟩ := e
    simp [hm]
  · rw [if_neg e]
    by_cases e1 : t' = tx k
    · have e2 : ¬ it k = x' := fun c => e ⟨e1, c.symm⟩
      simp [e2]
    · simp [e1]

theorem Rel.end0 {t k : Nat} {ks : List Nat} (h : Rel nk nT nX tx it (part m it t ks) md sh ex) (ht : Tab nk nT nX tx it) (hk : k < nk) (htk : tx k = t) (hz : md k = 0) :
    Rel nk nT nX tx it (part m it t (ks ++ [k])) md sh ex := by
  refine h.congr ht fun t' x' _ _ => ?_
  have hm : m t (it k) = 0 := by
    have := (h.md k hk).symm.trans hz
    rw [htk] at this
    exact (part_zero t (it k) t ks).1 this
  unfold part
  by_cases e1 : t' = t
  · subst e1
    by_cases e2 : it k = x'
    · subst e2
      simp [hm]
    · simp [e2]
  · simp [e1]

theorem Rel.start (h : Rel nk nT nX tx it m md sh ex) (t : Nat) : Rel nk nT nX tx it (part m it t []) md sh ex := by
  have : part m it t [] = m := by
    funext t' x'
    simp [part]
  rw [this]
  exact h

/-- all of them: the model's own step -/
theorem Rel.endAll {t : Nat} {ks : List Nat} (h : Rel nk nT nX tx it (part m it t ks) md sh ex) (ht : Tab nk nT nX tx it) (hall : ∀ k, k < nk → tx k = t → k ∈ ks) :
    Rel nk nT nX tx it (fun t' x' => if t' = t ∧ x' < nX ∧ m t' x' ≠ 0 then 3 else m t' x') md sh ex := by
  refine h.congr ht fun t' x' ht' hx' => ?_
  unfold part
  by_cases e1 : t' = t
  · subst e1
    by_cases e2 : m t' x' = 0
    · simp [e2]
    · have : ∃ k, k < nk ∧ tx k = t' ∧ it k = x' := by
        apply Classical.byContradiction
        intro c
        refine e2 ((part_zero t' x' t' ks).1 (h.zero t' x' ht' hx' fun k hk hc => c ⟨k, hk, hc⟩))
      obtain ⟨k, a1, a2, a3⟩ := this
      have hany : ks.any (fun k => decide (it k = x')) = true := List.any_eq_true.2 ⟨k, hall k a1 a2, by simp [a3]⟩
      rw [if_pos ⟨rfl, hany, e2⟩, if_pos ⟨rfl, hx', e2⟩]
  · simp [e1]
end

/-- what the law's own building gives: a schedule -/
structure Valid (ops : List (Int × Int × Int)) (nT nX : Nat) : Prop where
  kind : ∀ i, i < ops.length → 1 ≤ (ops.getD i (0, 0, 0)).1 ∧ (ops.getD i (0, 0, 0)).1 ≤ 7
  txn : ∀ i, i < ops.length → 0 ≤ (ops.getD i (0, 0, 0)).2.1 ∧ (ops.getD i (0, 0, 0)).2.1.toNat < nT
  item : ∀ i, i < ops.length → (ops.getD i (0, 0, 0)).1 ≠ 3 → (ops.getD i (0, 0, 0)).1 ≠ 4 → 0 ≤ (ops.getD i (0, 0, 0)).2.2 ∧ (ops.getD i (0, 0, 0)).2.2.toNat < nX
  none : ∀ i, i < ops.length → ((ops.getD i (0, 0, 0)).1 = 3 ∨ (ops.getD i (0, 0, 0)).1 = 4) → (ops.getD i (0, 0, 0)).2.2 = -1
  last : ∀ i j, i < j → j < ops.length → ((ops.getD i (0, 0, 0)).1 = 3 ∨ (ops.getD i (0, 0, 0)).1 = 4) → (ops.getD i (0, 0, 0)).2.1 = (ops.getD j (0, 0, 0)).2.1 → (ops.getD j (0, 0, 0)).1 = 7

/-- the model's locks are 0 .. 3, and 3 only behind an end -/
theorem mrun_range {ops : List (Int × Int × Int)} {nT nX : Nat} (hv : Valid ops nT nX) : ∀ i, i ≤ ops.length → ∀ t x, (0 ≤ (mrun nT nX ops i).m t x ∧ (mrun nT nX ops i).m t x ≤ 3) ∧
    ((mrun nT nX ops i).m t x = 3 → ∃ j, j < i ∧ ((ops.getD j (0, 0, 0)).1 = 3 ∨ (ops.getD j (0, 0, 0)).1 = 4) ∧ (ops.getD j (0, 0, 0)).2.1.toNat = t)
  | 0, _, t, x => by simp [mrun]
  | i + 1, hi, t, x => by
    obtain ⟨h1, h2⟩ := mrun_range hv i (by omega) t x
    simp only [mrun, mstep]
    split
    · rename_i c
      dsimp only
      split
      · rename_i c2
        exact ⟨by omega, fun _ => ⟨i, by omega, c, c2.1.symm⟩⟩
      · exact ⟨h1, fun h => by obtain ⟨j, a, b⟩ := h2 h; exact ⟨j, by omega, b⟩⟩
    · rename_i c
      simp only [put]
      split
      · rename_i c2
        obtain ⟨rfl, rfl⟩ := c2
        simp only [after]
        split
        · split
          · exact ⟨by omega, fun h => by omega⟩
          · exact ⟨h1, fun h => by obtain ⟨j, a, b⟩ := h2 h; exact ⟨j, by omega, b⟩⟩
        · split
          · exact ⟨by omega, fun h => by omega⟩
          · split
            · exact ⟨by omega, fun h => by omega⟩
            · exact ⟨h1, fun h => by obtain ⟨j, a, b⟩ := h2 h; exact ⟨j, by omega, b⟩⟩
      · exact ⟨h1, fun h => by obtain ⟨j, a, b⟩ := h2 h; exact ⟨j, by omega, b⟩⟩

/-- at a lock request the lock is no 'released at the end' -/
theorem mrun_ne3 {ops : List (Int × Int × Int)} {nT nX : Nat} (hv : Valid ops nT nX) {i : Nat} (hi : i < ops.length) (hk : (ops.getD i (0, 0, 0)).1 ≠ 7) (x : Nat) : (mrun nT nX ops i).m (ops.getD i (0, 0, 0)).2.1.toNat x ≠ 3 := by
  intro h
  obtain ⟨j, hj, hc, ht⟩ := (mrun_range hv i (by omega) _ x).2 h
  have h1 := (hv.txn i hi).1
  have h2 := (hv.txn j (by omega)).1
  exact hk (hv.last j i hj hi hc (by omega))

end Go.Proofs.Ybulkri.A
