/-
  A range over a function whose body is told that what comes is the list, in its order.
-/
import Derived.RangeFuncNested
import Derived.RangeFuncBound
import Derived.RangeFuncCalls
import Derived.RangeFuncLeaves
namespace Go.Proofs.Ybulkri
open Go Go.RowKit

/-- the iterator gives xs, in order, to any body that goes on and keeps what lay below n₀ -/
def SeqList {α : Type} (F : Fence) (n : Nat) (P : Program) (g : Nat) (lb : Array Value) (encs : α → Array Value) (n₀ : Nat) (xs : List α) (w : World) : Prop :=
  ∀ (l : Nat) (J : List α → World → Prop) (W : World), Below w.heap.size w W → AbidesFrom W.heap.size J →
    (∀ pre x W1, J pre W1 → pre ++ [x] <+: xs → YieldAt F (n - 1) P l (encs x) W1 fun e W' => e = .returned (.bool true) ∧ J (pre ++ [x]) W' ∧ Below n₀ W1 W') →
    J [] W →
    CallsIn F n P g (#[.func (.yield l) #[] #[]] ++ lb) W fun e W' => (∃ v, e = .returned v) ∧ J xs W'

/-- how a round goes on -/
def goesOn {α : Type} (B n₀ : Nat) (I : List α → World → Prop) (xs : List α) (W : World) : Exit → Act → World → Prop
  | .normal, _, W' => KeepsFrom B W W' ∧ Below n₀ W W' ∧ I xs W'
  | _, _, _ => False

theorem range_list {α : Type} {F : Fence} {n : Nat} {P : Program} {g : Operand} {ps : Array Tmp} {assign body : Code} {Q : Exit → Act → World → Prop} {a : Act} {w : World}
    (hro : F.round = none) (h1 : 1 ≤ n) {gf : Nat} {lb : Array Value} (hg : a.eval g = .func (.func gf) #[] lb) (hFg : F.fn gf) (eg : ∀ args w, (callFunc gf args).run P w = .ok (.enter gf args) w)
    {encs : α → Array Value} {n₀ : Nat} {xs : List α} {w0 : World} (hseq : SeqList F (n - 1) P gf lb encs n₀ xs w0) (hb0 : Below w0.heap.size w0 w) (hn₀ : n₀ ≤ w.heap.size) (hps : ∀ x, (encs x).size = ps.size)
    (I : List α → World → Prop) (hI : OwnFrom w.heap.size I) (h0 : I [] w) (a₁ : α → Act)
    (hassign : ∀ (l : Nat) (x : α) (W : World) (K : Act → World → Prop), K (a₁ x) W → assign.wpIn (F.inRound l) (n - 1 - 1) P (Exit.then K (fun _ _ _ => False)) { tmps := (ps.zip (encs x)).foldl (fun t (p, v) => t.setIfInBounds p v) a.tmps, defers := [] } W)
    (hbody : ∀ (l : Nat) (pre : List α) (x : α) (W : World), I pre W → pre ++ [x] <+: xs → body.wpIn (F.inRound l) (n - 1 - 1) P (goesOn w.heap.size n₀ I (pre ++ [x]) W) (a₁ x) W)
    (hdone : ∀ (D : Nat) (W : World), w.heap.size ≤ D → I xs W → W.heap[D]? = some (.deferred (some [])) → Q .normal { a with defers := { target := .collected D, args := #[] } :: a.defers } W) :
    (Code.rangeFunc g ps assign body).wpIn F n P Q a w := by
  refine wpIn_rangeFunc fun fn hfn => ?_
  rw [hro]
  obtain ⟨mk, hmk⟩ : ∃ mk : LoopState → Loop, mk = fun st => { state := st, pending := none, fn, tmps := a.tmps, params := ps, assign, body, defers := w.heap.size } := ⟨_, rfl⟩
  obtain ⟨W1, hW1⟩ : ∃ W1, (w.alloc (.deferred (some []))).alloc (.loop (mk .ready)) = W1 := ⟨_, rfl⟩
  have hz : W1.heap.size = w.heap.size + 2 := by rw [← hW1]; simp
  have hL1 : W1.heap[w.heap.size + 1]? = some (.loop (mk .ready)) := by
    rw [← hW1]
    have := World.alloc_heap_new (w.alloc (.deferred (some []))) (.loop (mk .ready))
    rwa [World.size_alloc] at this
  have hD1 : W1.heap[w.heap.size]? = some (.deferred (some [])) := by
    rw [← hW1]
    exact (Below.heap_alloc _ _ _ (by simp)).trans (World.alloc_heap_new w _)
  have hI1 : I [] W1 := by rw [← hW1]; exact hI.alloc _ (hI.alloc _ h0)
  have hb1 : Below w0.heap.size w0 W1 := by
    rw [← hW1]
    exact hb0.trans ((((Below.refl _ w).alloc (Nat.le_refl _) _).alloc (by simp) _).mono hb0.size)
  refine ⟨w.heap.size + 1, [{ target := .collected w.heap.size, args := #[] }], W1, { target := .fn (.func gf) lb, args := #[.func (.yield (w.heap.size + 1)) #[] #[]] }, W1, gf,
    #[.func (.yield (w.heap.size + 1)) #[] #[]] ++ lb, W1, ?_, ?_, ?_, ?_, fun _ => h1, ?_⟩
  · rw [← hW1, hmk]; exact run_enterLoop_outer _ _ _ _ _
  · simp only [resolve, hg]
    simp [go_sem]
  · intro f' hf'
    simp [Target.leads] at hf'
    subst hf'
    exact hFg
  · simp [invoke, go_sem, eg]
  · refine (hseq (w.heap.size + 1) (fun pre W => I pre W ∧ W.heap[w.heap.size + 1]? = some (.loop (mk .ready)) ∧ W.heap[w.heap.size]? = some (.deferred (some []))) W1 hb1 ?_ ?_ ⟨hI1, hL1, hD1⟩).mono ?_
    · intro s A B row hs hg' hr
      refine ⟨hI s A B row hs.1 hg' fun r e => ?_, (grownBy_keeps hg' (fun r e => (hr r e).2) hs.2.1 rfl).trans hs.2.1, (grownBy_keeps hg' (fun r e => (hr r e).2) hs.2.2 rfl).trans hs.2.2⟩
      obtain ⟨h1', o, h2', h3'⟩ := hr r e
      exact ⟨by omega, o, h2', Obj.not_cells_of_walk h3'⟩
    · rintro pre x W ⟨hi, hl, hd⟩ hpre
      have hlt : w.heap.size + 1 < W.heap.size := (Array.getElem?_eq_some_iff.1 hl).1
      have hy := run_yield (P := P) (args := encs x) hl (by rw [hmk]; exact hps x)
      rw [hmk] at hy
      refine ⟨fn, _, assign, body, hy, roundIn_of_wpIn hfn (hassign _ x W _ ?_)⟩
      clear hy
      refine ⟨_, run_beginRound hl (by rw [hmk]), ?_⟩
      obtain ⟨Wb, hWb⟩ : ∃ Wb, W.putObj (w.heap.size + 1) (.loop { mk .ready with state := .busy }) = Wb := ⟨_, rfl⟩
      have hlb : Wb.heap[w.heap.size + 1]? = some (.loop { mk .ready with state := .busy }) := by rw [← hWb]; exact World.putObj_heap_same hlt
      have hdb : Wb.heap[w.heap.size]? = some (.deferred (some [])) := by rw [← hWb]; exact (World.putObj_heap_other (by omega)).trans hd
      have hib : I pre Wb := by rw [← hWb]; exact hI.putObj _ hi (by omega) hl rfl
      have hkb : Below n₀ W Wb := by rw [← hWb]; exact belowK_b hn₀ _ _ _ _ (by omega) hl rfl rfl
      rw [hWb]
      refine wpIn_mono (hbody _ pre x Wb hib hpre) ?_
      rintro e a3 W3 hp
      cases e with
      | normal =>
        obtain ⟨hk3, hbel3, hi3⟩ := hp
        have hl3 := hk3.same _ _ (by omega) hlb rfl
        have hd3 := hk3.same _ _ (Nat.le_refl _) hdb rfl
        have hr := run_endRound (P := P) none hl3
        rw [hmk] at hr
        refine ⟨_, _, hr, rfl, ⟨hI.putObj _ hi3 (by omega) hl3 rfl, ?_, (World.putObj_heap_other (by omega)).trans hd3⟩, (hkb.trans hbel3).trans (belowK_b hn₀ _ _ _ _ (by omega) hl3 rfl rfl)⟩
        rw [World.putObj_heap_same (Array.getElem?_eq_some_iff.1 hl3).1, hmk]
        rfl
      | ret => exact hp.elim
      | exit id => exact hp.elim
      | goto t => exact hp.elim
      | panic ch => exact hp.elim
      | outgrown => exact hp.elim
    · rintro e W2 ⟨⟨v, rfl⟩, hi, hl, hd⟩
      have hr := run_endLoop (P := P) hl (by rw [hmk]; simp)
      rw [hmk] at hr
      exact ⟨none, _, hr, hdone _ _ (Nat.le_refl _) (hI.putObj _ hi (by omega) hl rfl) ((World.putObj_heap_other (by omega)).trans hd)⟩
end Go.Proofs.Ybulkri
