/-
  LawS0034AModel: the row.
-/
import Derived.Test.YbulkriRows
import Derived.Test.YbulkriACheck
import Derived.WalkKit
import Derived.ProofKit
import Derived.OpenShut
import Derived.ShutString
import Derived.ChangeOld
import Derived.Below
import Derived.Deep.SlicePairs
namespace Go.Proofs.Ybulkri.lawS0034AModel
open Go.ChangeShapes Go.WideShapes Go.ChangeAt Go.RowKit Go.Proofs.Ybulkri.A
open Go.ChangeMaps (open_string shut_string)
set_option linter.unusedVariables false

theorem own : ownKnob Yba.prog.godebug = none := by kernel_rfl
theorem laidOut : laidOutB Yba.prog = true := by kernel_rfl
theorem cells32 : Yba.prog.cellsOf 32 = 3 := by kernel_rfl
theorem cells5 : Yba.prog.cellsOf 5 = 1 := by kernel_rfl

set_option maxHeartbeats 400000 in
theorem law_long (ao : Option Addr) (len cap : Nat) (w : World) (hl : 1024 < len) (hm : len ≤ maxLen) :
    Calls Yba.prog 3 #[.slice ao len cap] w fun e w' => e = .returned (.bool true) ∧ Below w.heap.size w w' := by
  unfold maxLen at hm
  have hd0 : ((len : Int) == 0) = false := by simp; omega
  have hd1 : decide ((1024 : Int) < (len : Int)) = true := by simp; omega
  go_enter Yba.func3, Yba.ntmps3
  go_wp2
  go_ret
  exact ⟨rfl, Below.refl _ _⟩

set_option maxHeartbeats 400000 in
theorem law_zero (ao : Option Addr) (cap : Nat) (w : World) :
    Calls Yba.prog 3 #[.slice ao 0 cap] w fun e w' => e = .returned (.bool true) ∧ Below w.heap.size w w' := by
  go_enter Yba.func3, Yba.ntmps3
  go_wp2
  go_ret
  exact ⟨rfl, Below.refl _ _⟩

theorem bounds8 {n : Int} (h : (Lit.int .u8 n).wf = true) : 0 ≤ n ∧ n ≤ 255 := by
  have := bounds_u8 h
  omega

set_option maxRecDepth 100000 in
/-- What is read of the argument: it is as the walk wants it. -/
theorem steps_of {H : Type} {enc : TypeId × Value → H} {W : World} {fuel : Nat} {a0 : Option Addr} {len cap : Nat} {x : DataW H × List MemPlace}
    (h : DataW.trod enc Yba.prog W 0 (fun _ => true) true fuel 22 [.slice a0 len cap] = some x) (hlt : ∀ y ∈ x.2, y.block < W.heap.size) :
    len ≤ maxLen ∧ ∃ l, Steps3 W W.heap.size a0 len l := by
  rcases Go.Deep.open_slice Yba.underlying22 h with ⟨hcs, _⟩ | ⟨a, l', c', m, n, D, Pl, hcs, _, hl, hm, hmm, hx, hv⟩
  · simp only [List.cons.injEq, Value.slice.injEq, and_true] at hcs
    obtain ⟨rfl, rfl, rfl⟩ := hcs
    exact ⟨Nat.zero_le _, [], rfl, by simp, fun h => absurd h (Nat.lt_irrefl _)⟩
  · simp only [List.cons.injEq, Value.slice.injEq, and_true] at hcs
    obtain ⟨rfl, rfl, rfl⟩ := hcs
    have hmc : m = cap := by simpa using hmm
    subst hmc
    refine ⟨by omega, ?_⟩
    rw [cells32] at hv hx
    have hv' : ∀ i, i < m → ∃ p : Int × Int × Int, (W.cell? (a.add (i * 3)) = some (.int .u8 p.1) ∧ W.cell? (a.add (i * 3 + 1)) = some (.int .u8 p.2.1) ∧ W.cell? (a.add (i * 3 + 2)) = some (.int .u8 p.2.2)) ∧ (0 ≤ p.1 ∧ p.1 ≤ 255) ∧ (0 ≤ p.2.1 ∧ p.2.1 ≤ 255) ∧ 0 ≤ p.2.2 ∧ p.2.2 ≤ 255 := by
      intro i hi
      obtain ⟨cs', h1, h2⟩ := hv i hi
      obtain ⟨_, hlen, hcell⟩ := World.cells?_some h1
      obtain ⟨xs, k, hk, hxy, _, hxl, hf⟩ := DataW.trod_struct Yba.underlying32 h2
      match xs, hxl, cs', hlen with
      | [y0, y1, y2], _, [v0, v1, v2], _ =>
        have g0 := hf 0 _ rfl
        have g1 := hf 1 _ rfl
        have g2 := hf 2 _ rfl
        simp [cells5] at g0 g1 g2
        obtain ⟨n0, e0, _, w0⟩ := DataW.trod_int Yba.underlying5 g0
        obtain ⟨n1, e1, _, w1⟩ := DataW.trod_int Yba.underlying5 g1
        obtain ⟨n2, e2, _, w2⟩ := DataW.trod_int Yba.underlying5 g2
        simp only [List.cons.injEq, and_true] at e0 e1 e2
        have c0 := hcell 0 (by omega)
        have c1 := hcell 1 (by omega)
        have c2 := hcell 2 (by omega)
        rw [Go.Deep.add_add] at c0 c1 c2
        subst e0
        subst e1
        subst e2
        exact ⟨(n0, n1, n2), ⟨by simpa using c0, by simpa using c1, by simpa using c2⟩, bounds8 w0, bounds8 w1, bounds8 w2⟩
    obtain ⟨f, hf⟩ := Go.Deep.choose_lt hv'
    refine ⟨(List.range len).map f, by simp, ?_, fun hp => ?_⟩
    · intro s hs
      obtain ⟨i, hi, rfl⟩ := List.mem_map.1 hs
      have := hf i (by have := List.mem_range.1 hi; omega)
      exact this.2
    · have h0 := (hf 0 (by omega)).1.1
      obtain ⟨b, off, spot⟩ := a
      have hspot : spot = none := by simpa [Addr.add] using World.cell?_spot h0
      subst hspot
      refine ⟨b, off, rfl, ?_, fun i hi => ?_⟩
      · refine hlt (.cell b off) ?_
        rw [hx]
        refine List.mem_append_left _ ?_
        simp only [MemPlace.row, List.mem_map, List.mem_range]
        exact ⟨0, by omega, by simp⟩
      · obtain ⟨⟨c0, c1, c2⟩, _⟩ := hf i (by omega)
        rw [add_plain] at c0 c1 c2
        have e : ((List.range len).map f).getD i (0, 0, 0) = f i := by simp [List.getD_eq_getElem?_getD, hi]
        rw [e]
        exact ⟨c0, by rw [Nat.add_assoc]; exact c1, by rw [Nat.add_assoc]; exact c2⟩

set_option maxRecDepth 100000 in
theorem lifted (os : Os) (started : os.Started) (H : Type) (enc : TypeId × Value → H) :
    ReturnsInHanded {} Yba.checked os 3 .any (Rows.lawS0034AModelSpec.pre6 enc Yba.prog Yba.f3 Rows.lawS0034AModelRow.domain false) (Rows.lawS0034AModelSpec.post enc Yba.prog Yba.f3 false true false false) := by
  refine returnsInHanded_of_change (C := Yba.checked) own started (by kernel_rfl) Yba.func3
    (ChangeSpec.witness6 (enc := enc) (C := Yba.checked) false ⟨#[], #[.slice none 0 0], []⟩ 8 (by kernel_rfl) (by kernel_rfl) (by kernel_rfl) (by kernel_rfl)) ?_
  intro W base args ds gs before hval0 hW hcnd _
  have hval : ∀ (j : Nat) t v, Yba.f3.params[j]? = some t → args[j]? = some v → Value.okWide Yba.prog W .any base t v := hval0
  have hW' := hW
  obtain ⟨p, q, hA0, hV, rfl, hfz, hnd⟩ := hW
  have hA : DataW.TrodAll enc Yba.prog W 0 (fun _ => true) true Yba.f3.params.toList args.toList ds p := hA0
  rw [Yba.params3] at hA hval
  obtain ⟨v0, vs0, d0, ds0, p0, q0, hargs, rfl, rfl, h0, r0⟩ := trodAll_cons hA
  obtain ⟨rfl, rfl, rfl⟩ := trodAll_nil r0
  obtain rfl : args = #[v0] := by cases args; simp_all
  obtain ⟨rfl, rfl⟩ := trodVars_none hV
  obtain ⟨a0, len0, cap0, rfl⟩ := okWide_slice Yba.underlying22 (hval 0 22 v0 rfl rfl)
  have k0 := h0
  have lt0 : ∀ x ∈ p0, x.block < W.heap.size := by obtain ⟨m, hm⟩ := k0; exact DataW.trod_lt m _ _ _ hm
  obtain ⟨hm0, l, hsteps⟩ : len0 ≤ maxLen ∧ ∃ l, Steps3 W W.heap.size a0 len0 l := by
    obtain ⟨fuel, hf⟩ := h0
    exact steps_of (by simpa [Value.cells] using hf) lt0
  clear hA0 hval0
  have walk : Calls Yba.prog 3 #[.slice a0 len0 cap0] W fun e w' => e = .returned (.bool true) ∧ Below W.heap.size W w' := by
    by_cases hz : len0 = 0
    · subst hz
      exact law_zero a0 cap0 W
    · by_cases hl : len0 ≤ 1024
      · exact law_any check_any a0 len0 cap0 l W (by omega) hl hsteps
      · exact law_long a0 len0 cap0 W (by omega) hm0
  refine walk.mono fun e W' ⟨he, bel⟩ => ?_
  subst he
  exact ⟨_, rfl, _, _, _, [], _, [], hW', trodAll_mk1 (shut_bool Yba.underlying4 _), (trodAll_cons_mk (Below.trod laidOut (by kernel_rfl) (of_decide_eq_true (by kernel_rfl)) k0 bel lt0) trodAll_mk0), rfl, bel.frame _, fun h => by cases h⟩

theorem over : Rows.lawS0034AModelRow.holds Yba.pinned (OpenSpec.ofChange Rows.lawS0034AModelSpec) :=
  OpenClaim.holds_of_wide 3 Yba.f3 rfl rfl rfl rfl rfl rfl rfl ⟨rfl, rfl, rfl, rfl, rfl⟩ rfl rfl rfl rfl rfl (by kernel_rfl) Yba.func3 (by kernel_rfl)
    (of_decide_eq_true (by kernel_rfl)) (by unfold Func.isWrapper; first | (rw [if_pos (by decide +kernel)]; kernel_rfl) | (rw [if_neg (by decide +kernel)]; exact ⟨rfl, rfl⟩))
    (fun os started H enc _ => lifted os started H enc)

theorem proved : Rows.LawS0034AModelSaid := over
end Go.Proofs.Ybulkri.lawS0034AModel
