/-
  LawS0034BExact: the row.
-/
import Derived.Test.YbulkriRows
import Derived.Test.YbulkriExact
import Derived.WalkKit
import Derived.ProofKit
import Derived.OpenShut
import Derived.ShutString
import Derived.ChangeOld
import Derived.Below
import Derived.Deep.SlicePairs
namespace Go.Proofs.Ybulkri.lawS0034BExact
open Go.ChangeShapes Go.WideShapes Go.ChangeAt Go.RowKit
open Go.ChangeMaps (open_string shut_string)
set_option linter.unusedVariables false

theorem own : ownKnob Yba.prog.godebug = none := by kernel_rfl
theorem laidOut : laidOutB Yba.prog = true := by kernel_rfl
theorem cells48 : Yba.prog.cellsOf 48 = 2 := by kernel_rfl
theorem cells5 : Yba.prog.cellsOf 5 = 1 := by kernel_rfl

set_option maxHeartbeats 400000 in
theorem exact_long (ao : Option Addr) (len cap : Nat) (w : World) (hl : 1024 < len) (hm : len ≤ maxLen) :
    Calls Yba.prog 4 #[.slice ao len cap] w fun e w' => e = .returned (.bool true) ∧ Below w.heap.size w w' := by
  unfold maxLen at hm
  go_enter Yba.func4, Yba.ntmps4
  go_wp2
  go_ret
  exact ⟨rfl, Below.refl _ _⟩

theorem bounds8 {n : Int} (h : (Lit.int .u8 n).wf = true) : 0 ≤ n ∧ n ≤ 255 := by
  have := bounds_u8 h
  omega

/-- What is read of the argument: it is as the walk wants it. -/
theorem steps_of {H : Type} {enc : TypeId × Value → H} {W : World} {fuel : Nat} {a0 : Option Addr} {len cap : Nat} {x : DataW H × List MemPlace}
    (h : DataW.trod enc Yba.prog W 0 (fun _ => true) true fuel 44 [.slice a0 len cap] = some x) (hlt : ∀ y ∈ x.2, y.block < W.heap.size) :
    len ≤ maxLen ∧ ∃ l, StepsAt W W.heap.size a0 len l := by
  rcases Go.Deep.open_slice_pairs Yba.underlying44 Yba.underlying48 cells48 rfl rfl cells5 cells5 h with ⟨hcs, _⟩ | ⟨a, l', c', m, n, V0, V1, D0, D1, P0, P1, hcs, _, hl, hm, hmm, hx, hv⟩
  · simp only [List.cons.injEq, Value.slice.injEq, and_true] at hcs
    obtain ⟨rfl, rfl, rfl⟩ := hcs
    exact ⟨Nat.zero_le _, [], rfl, by simp, fun h => absurd h (Nat.lt_irrefl _)⟩
  · simp only [List.cons.injEq, Value.slice.injEq, and_true] at hcs
    obtain ⟨rfl, rfl, rfl⟩ := hcs
    have hmc : m = cap := by simpa using hmm
    subst hmc
    refine ⟨by omega, ?_⟩
    have hv' : ∀ i, i < m → ∃ p : Int × Int, V0 i = .int .u8 p.1 ∧ V1 i = .int .u8 p.2 ∧ (0 ≤ p.1 ∧ p.1 ≤ 255) ∧ 0 ≤ p.2 ∧ p.2 ≤ 255 := by
      intro i hi
      obtain ⟨_, _, t0, t1⟩ := hv i hi
      obtain ⟨n0, e0, _, w0⟩ := DataW.trod_int Yba.underlying5 t0
      obtain ⟨n1, e1, _, w1⟩ := DataW.trod_int Yba.underlying5 t1
      simp only [List.cons.injEq, and_true] at e0 e1
      exact ⟨(n0, n1), e0, e1, bounds8 w0, bounds8 w1⟩
    obtain ⟨f, hf⟩ := Go.Deep.choose_lt hv'
    refine ⟨(List.range len).map f, by simp, ?_, fun hp => ?_⟩
    · intro s hs
      obtain ⟨i, hi, rfl⟩ := List.mem_map.1 hs
      have := hf i (by have := List.mem_range.1 hi; omega)
      exact this.2.2
    · have h0 := (hv 0 (by omega)).1
      obtain ⟨b, off, spot⟩ := a
      have hspot : spot = none := by simpa [Addr.add] using World.cell?_spot h0
      subst hspot
      refine ⟨b, off, rfl, ?_, fun i hi => ?_⟩
      · refine hlt (.cell b off) ?_
        rw [hx]
        refine List.mem_append_left _ ?_
        simp only [MemPlace.row, List.mem_map, List.mem_range]
        exact ⟨0, by omega, by simp⟩
      · obtain ⟨c0, c1, _, _⟩ := hv i (by omega)
        rw [add_plain] at c0 c1
        have := hf i (by omega)
        have e : ((List.range len).map f).getD i (0, 0) = f i := by simp [List.getD_eq_getElem?_getD, hi]
        rw [e]
        exact ⟨by rw [c0, this.1], by rw [Nat.add_assoc, c1, this.2.1]⟩

set_option maxRecDepth 100000 in
theorem lifted (os : Os) (started : os.Started) (H : Type) (enc : TypeId × Value → H) :
    ReturnsInHanded {} Yba.checked os 4 .any (Rows.lawS0034BExactSpec.pre6 enc Yba.prog Yba.f4 Rows.lawS0034BExactRow.domain false) (Rows.lawS0034BExactSpec.post enc Yba.prog Yba.f4 false true false false) := by
  refine returnsInHanded_of_change (C := Yba.checked) own started (by kernel_rfl) Yba.func4
    (ChangeSpec.witness6 (enc := enc) (C := Yba.checked) false ⟨#[], #[.slice none 0 0], []⟩ 8 (by kernel_rfl) (by kernel_rfl) (by kernel_rfl) (by kernel_rfl)) ?_
  intro W base args ds gs before hval0 hW hcnd _
  have hval : ∀ (j : Nat) t v, Yba.f4.params[j]? = some t → args[j]? = some v → Value.okWide Yba.prog W .any base t v := hval0
  have hW' := hW
  obtain ⟨p, q, hA0, hV, rfl, hfz, hnd⟩ := hW
  have hA : DataW.TrodAll enc Yba.prog W 0 (fun _ => true) true Yba.f4.params.toList args.toList ds p := hA0
  rw [Yba.params4] at hA hval
  obtain ⟨v0, vs0, d0, ds0, p0, q0, hargs, rfl, rfl, h0, r0⟩ := trodAll_cons hA
  obtain ⟨rfl, rfl, rfl⟩ := trodAll_nil r0
  obtain rfl : args = #[v0] := by cases args; simp_all
  obtain ⟨rfl, rfl⟩ := trodVars_none hV
  obtain ⟨a0, len0, cap0, rfl⟩ := okWide_slice Yba.underlying44 (hval 0 44 v0 rfl rfl)
  have k0 := h0
  have lt0 : ∀ x ∈ p0, x.block < W.heap.size := by obtain ⟨m, hm⟩ := k0; exact DataW.trod_lt m _ _ _ hm
  obtain ⟨hm0, l, hsteps⟩ : len0 ≤ maxLen ∧ ∃ l, StepsAt W W.heap.size a0 len0 l := by
    obtain ⟨fuel, hf⟩ := h0
    exact steps_of (by simpa [Value.cells] using hf) lt0
  clear hA0 hval0
  have walk : Calls Yba.prog 4 #[.slice a0 len0 cap0] W fun e w' => e = .returned (.bool true) ∧ Below W.heap.size W w' := by
    by_cases hl : len0 ≤ 1024
    · exact exact_any a0 len0 cap0 l W hl hsteps
    · exact exact_long a0 len0 cap0 W (by omega) hm0
  refine walk.mono fun e W' ⟨he, bel⟩ => ?_
  subst he
  exact ⟨_, rfl, _, _, _, [], _, [], hW', trodAll_mk1 (shut_bool Yba.underlying4 _), (trodAll_cons_mk (Below.trod laidOut (by kernel_rfl) (of_decide_eq_true (by kernel_rfl)) k0 bel lt0) trodAll_mk0), rfl, bel.frame _, fun h => by cases h⟩

theorem over : Rows.lawS0034BExactRow.holds Yba.pinned (OpenSpec.ofChange Rows.lawS0034BExactSpec) :=
  OpenClaim.holds_of_wide 4 Yba.f4 rfl rfl rfl rfl rfl rfl rfl ⟨rfl, rfl, rfl, rfl, rfl⟩ rfl rfl rfl rfl rfl (by kernel_rfl) Yba.func4 (by kernel_rfl)
    (of_decide_eq_true (by kernel_rfl)) (by unfold Func.isWrapper; first | (rw [if_pos (by decide +kernel)]; kernel_rfl) | (rw [if_neg (by decide +kernel)]; exact ⟨rfl, rfl⟩))
    (fun os started H enc _ => lifted os started H enc)

theorem proved : Rows.LawS0034BExactSaid := over
end Go.Proofs.Ybulkri.lawS0034BExact
