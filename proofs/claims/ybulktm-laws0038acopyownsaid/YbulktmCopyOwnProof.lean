/-
  LawS0038ACopyOwn: the row.
-/
import Derived.Test.YbulktmRows
import Derived.Test.YbulktmLaw
import Derived.Test.YbulktmArgs
import Derived.WalkKit
import Derived.ProofKit
import Derived.OpenShut
import Derived.ShutString
import Derived.ChangeOld
import Derived.Below
import Derived.Carry
import Derived.SizedLaws
namespace Go.Proofs.Ybulktm.lawS0038ACopyOwn
open Go.ChangeShapes Go.WideShapes Go.ChangeAt Go.RowKit
open Go.ChangeMaps (open_string shut_string)
set_option linter.unusedVariables false

theorem own : ownKnob Yba.prog.godebug = none := by kernel_rfl
theorem laidOut : laidOutB Yba.prog = true := by kernel_rfl
theorem cells5 : Yba.prog.cellsOf 5 = 1 := by kernel_rfl
theorem cells9 : Yba.prog.cellsOf 9 = 1 := by kernel_rfl
theorem cells26 : Yba.prog.cellsOf 26 = 1 := by kernel_rfl
theorem cells27 : Yba.prog.cellsOf 27 = 1 := by kernel_rfl
theorem cells29 : Yba.prog.cellsOf 29 = 1 := by kernel_rfl
theorem cells47 : Yba.prog.cellsOf 47 = 1 := by kernel_rfl
theorem cells58 : Yba.prog.cellsOf 58 = 1 := by kernel_rfl

set_option maxHeartbeats 1000000 in
set_option maxRecDepth 100000 in
theorem lifted (os : Os) (started : os.Started) (H : Type) (enc : TypeId × Value → H) :
    ReturnsInHanded {} Yba.checked os 3 .any (Rows.lawS0038ACopyOwnSpec.pre6 enc Yba.prog Yba.f3 Rows.lawS0038ACopyOwnRow.domain false) (Rows.lawS0038ACopyOwnSpec.post enc Yba.prog Yba.f3 false true false false) := by
  refine returnsInHanded_of_change_sized (C := Yba.checked) own started (by kernel_rfl) Yba.func3
    (ChangeSpec.witness6 (enc := enc) (C := Yba.checked) false ⟨#[], #[.string ByteArray.empty, .int .i64 0, .int .i64 0, .slice none 0 0, .slice none 0 0, .slice none 0 0, .bool false, .slice none 0 0, .int .i64 0, .int .i64 0, .slice none 0 0], []⟩ 8 (by kernel_rfl) (by kernel_rfl) (by kernel_rfl) (by kernel_rfl)) ?_
  intro W base args ds gs before hval0 hW hcnd hsz0 _
  have hval : ∀ (j : Nat) t v, Yba.f3.params[j]? = some t → args[j]? = some v → Value.okWide Yba.prog W .any base t v := hval0
  have hsz1 : (DataW.weightsEach Yba.prog (Yba.f3.params.toList ++ Rows.lawS0038ACopyOwnSpec.plain.varTypes Yba.prog) (ds ++ gs)).all (· ≤ reachBytes) = true := hsz0
  have hW' := hW
  obtain ⟨p, q, hA0, hV, rfl, hfz, hnd⟩ := hW
  have hA : DataW.TrodAll enc Yba.prog W 0 (fun _ => true) true Yba.f3.params.toList args.toList ds p := hA0
  rw [Yba.params3] at hA hval hsz1
  obtain ⟨v0, vs0, d0, ds0, p0, q0, hargs, rfl, rfl, h0, r0⟩ := trodAll_cons hA
  obtain ⟨v1, vs1, d1, ds1, p1, q1, rfl, rfl, rfl, h1, r1⟩ := trodAll_cons r0
  obtain ⟨v2, vs2, d2, ds2, p2, q2, rfl, rfl, rfl, h2, r2⟩ := trodAll_cons r1
  obtain ⟨v3, vs3, d3, ds3, p3, q3, rfl, rfl, rfl, h3, r3⟩ := trodAll_cons r2
  obtain ⟨v4, vs4, d4, ds4, p4, q4, rfl, rfl, rfl, h4, r4⟩ := trodAll_cons r3
  obtain ⟨v5, vs5, d5, ds5, p5, q5, rfl, rfl, rfl, h5, r5⟩ := trodAll_cons r4
  obtain ⟨v6, vs6, d6, ds6, p6, q6, rfl, rfl, rfl, h6, r6⟩ := trodAll_cons r5
  obtain ⟨v7, vs7, d7, ds7, p7, q7, rfl, rfl, rfl, h7, r7⟩ := trodAll_cons r6
  obtain ⟨v8, vs8, d8, ds8, p8, q8, rfl, rfl, rfl, h8, r8⟩ := trodAll_cons r7
  obtain ⟨v9, vs9, d9, ds9, p9, q9, rfl, rfl, rfl, h9, r9⟩ := trodAll_cons r8
  obtain ⟨v10, vs10, d10, ds10, p10, q10, rfl, rfl, rfl, h10, r10⟩ := trodAll_cons r9
  obtain ⟨rfl, rfl, rfl⟩ := trodAll_nil r10
  obtain rfl : args = #[v0, v1, v2, v3, v4, v5, v6, v7, v8, v9, v10] := by cases args; simp_all
  obtain ⟨rfl, rfl⟩ := trodVars_none hV
  obtain ⟨name, rfl⟩ := okWide_string Yba.underlying9 (hval 0 9 v0 rfl rfl)
  obtain ⟨n1, rfl⟩ := okWide_int Yba.underlying3 (hval 1 3 v1 rfl rfl)
  obtain ⟨n2, rfl⟩ := okWide_int Yba.underlying3 (hval 2 3 v2 rfl rfl)
  obtain ⟨a3, l3, c3, rfl⟩ := okWide_slice Yba.underlying22 (hval 3 22 v3 rfl rfl)
  obtain ⟨a4, l4, c4, rfl⟩ := okWide_slice Yba.underlying23 (hval 4 23 v4 rfl rfl)
  obtain ⟨a5, l5, c5, rfl⟩ := okWide_slice Yba.underlying24 (hval 5 24 v5 rfl rfl)
  obtain ⟨b6, rfl⟩ := okWide_bool Yba.underlying4 (hval 6 4 v6 rfl rfl)
  obtain ⟨a7, l7, c7, rfl⟩ := okWide_slice Yba.underlying25 (hval 7 25 v7 rfl rfl)
  obtain ⟨n8, rfl⟩ := okWide_int Yba.underlying3 (hval 8 3 v8 rfl rfl)
  obtain ⟨n9, rfl⟩ := okWide_int Yba.underlying3 (hval 9 3 v9 rfl rfl)
  obtain ⟨a10, l10, c10, rfl⟩ := okWide_slice Yba.underlying26 (hval 10 26 v10 rfl rfl)
  have k0 := h0
  have lt0 : ∀ x ∈ p0, x.block < W.heap.size := by obtain ⟨m, hm⟩ := k0; exact DataW.trod_lt m _ _ _ hm
  have k1 := h1
  have lt1 : ∀ x ∈ p1, x.block < W.heap.size := by obtain ⟨m, hm⟩ := k1; exact DataW.trod_lt m _ _ _ hm
  have k2 := h2
  have lt2 : ∀ x ∈ p2, x.block < W.heap.size := by obtain ⟨m, hm⟩ := k2; exact DataW.trod_lt m _ _ _ hm
  have k3 := h3
  have lt3 : ∀ x ∈ p3, x.block < W.heap.size := by obtain ⟨m, hm⟩ := k3; exact DataW.trod_lt m _ _ _ hm
  have k4 := h4
  have lt4 : ∀ x ∈ p4, x.block < W.heap.size := by obtain ⟨m, hm⟩ := k4; exact DataW.trod_lt m _ _ _ hm
  have k5 := h5
  have lt5 : ∀ x ∈ p5, x.block < W.heap.size := by obtain ⟨m, hm⟩ := k5; exact DataW.trod_lt m _ _ _ hm
  have k6 := h6
  have lt6 : ∀ x ∈ p6, x.block < W.heap.size := by obtain ⟨m, hm⟩ := k6; exact DataW.trod_lt m _ _ _ hm
  have k7 := h7
  have lt7 : ∀ x ∈ p7, x.block < W.heap.size := by obtain ⟨m, hm⟩ := k7; exact DataW.trod_lt m _ _ _ hm
  have k8 := h8
  have lt8 : ∀ x ∈ p8, x.block < W.heap.size := by obtain ⟨m, hm⟩ := k8; exact DataW.trod_lt m _ _ _ hm
  have k9 := h9
  have lt9 : ∀ x ∈ p9, x.block < W.heap.size := by obtain ⟨m, hm⟩ := k9; exact DataW.trod_lt m _ _ _ hm
  have k10 := h10
  have lt10 : ∀ x ∈ p10, x.block < W.heap.size := by obtain ⟨m, hm⟩ := k10; exact DataW.trod_lt m _ _ _ hm
  have walk : Calls Yba.prog 3 #[.string name, .int .i64 n1, .int .i64 n2, .slice a3 l3 c3, .slice a4 l4 c4, .slice a5 l5 c5, .bool b6, .slice a7 l7 c7, .int .i64 n8, .int .i64 n9, .slice a10 l10 c10] W fun e w' => e = .returned (.bool true) ∧ Below W.heap.size W w' := by
    obtain ⟨f3, hf3⟩ := h3
    obtain ⟨f4, hf4⟩ := h4
    obtain ⟨f5, hf5⟩ := h5
    obtain ⟨f7, hf7⟩ := h7
    obtain ⟨f10, hf10⟩ := h10
    obtain ⟨ta, tn, tc, TA, TC, TX, e3, o3, _⟩ := outer_of (mk := fun l => l.map (Value.int .u8)) (E := fun _ _ => True) (by simp) Yba.underlying22 cells27 (fun n v y h hl => by
      obtain ⟨ao, cap, zs, h1, h2⟩ := sl_int Yba.underlying27 Yba.underlying5 cells5 h hl
      exact ⟨ao, cap, zs, h1, h2, trivial⟩) (v := .slice a3 l3 c3) (by simpa [Value.cells] using hf3) lt3
    obtain ⟨na, nn, nc, NA, NC, NX, e4, o4, _⟩ := outer_of (mk := fun l => l.map (Value.int .u64)) (E := fun _ _ => True) (by simp) Yba.underlying23 cells26 (fun n v y h hl => by
      obtain ⟨ao, cap, zs, h1, h2⟩ := sl_int Yba.underlying26 Yba.underlying47 cells47 h hl
      exact ⟨ao, cap, zs, h1, h2, trivial⟩) (v := .slice a4 l4 c4) (by simpa [Value.cells] using hf4) lt4
    obtain ⟨sa, sn, sc, SA, SC, SX, e5, o5, hshort⟩ := outer_of (mk := fun l => l.map Value.string) (E := fun zs d => ∀ s ∈ zs, s.size ∈ d.weights Yba.prog 29) (by simp) Yba.underlying24 cells29 (fun n v y h hl => sl_str Yba.underlying29 Yba.underlying9 cells9 h hl) (v := .slice a5 l5 c5) (by simpa [Value.cells] using hf5) lt5
    obtain ⟨ka, kc, kx, e7, o7⟩ := sl_int (v := .slice a7 l7 c7) Yba.underlying25 Yba.underlying58 cells58 (by simpa [Value.cells] using hf7) lt7
    obtain ⟨ba, bc, bx, e10, o10⟩ := sl_int (v := .slice a10 l10 c10) Yba.underlying26 Yba.underlying47 cells47 (by simpa [Value.cells] using hf10) lt10
    rw [e3, e4, e5, e7, e10]
    refine law_any (TA := TA) (NA := NA) (SA := SA) (TC := TC) (NC := NC) (SC := SC) (TX := TX) (NX := NX) (SX := SX) (kx := kx) (bx := bx) ⟨o3, o4, o5, o7, o10, ?_⟩
    intro i x hx
    rcases hshort i with he | ⟨d, elems, spare, hd, hmem, hE⟩
    · rw [he] at hx
      cases hx
    · have hw := weights_slice_mem (spare := spare) Yba.underlying24 (hE x hx) hmem
      rw [← hd] at hw
      have hin := DataW.weights_mem_each (j := 5) (t := 24) (d := d5) (P := Yba.prog) (ts := [9, 3, 3, 22, 23, 24, 4, 25, 3, 3, 26] ++ Rows.lawS0038ACopyOwnSpec.plain.varTypes Yba.prog) (ds := [d0, d1, d2, d3, d4, d5, d6, d7, d8, d9, d10] ++ []) rfl rfl _ hw
      have := List.all_eq_true.1 hsz1 _ hin
      exact of_decide_eq_true this
  refine walk.mono fun e W' ⟨he, bel⟩ => ?_
  subst he
  exact ⟨_, rfl, _, _, _, [], _, [], hW', trodAll_mk1 (shut_bool Yba.underlying4 _), (trodAll_cons_mk (Below.trod laidOut (by kernel_rfl) (of_decide_eq_true (by kernel_rfl)) k0 bel lt0) (trodAll_cons_mk (Below.trod laidOut (by kernel_rfl) (of_decide_eq_true (by kernel_rfl)) k1 bel lt1) (trodAll_cons_mk (Below.trod laidOut (by kernel_rfl) (of_decide_eq_true (by kernel_rfl)) k2 bel lt2) (trodAll_cons_mk (Below.trod laidOut (by kernel_rfl) (of_decide_eq_true (by kernel_rfl)) k3 bel lt3) (trodAll_cons_mk (Below.trod laidOut (by kernel_rfl) (of_decide_eq_true (by kernel_rfl)) k4 bel lt4) (trodAll_cons_mk (Below.trod laidOut (by kernel_rfl) (of_decide_eq_true (by kernel_rfl)) k5 bel lt5) (trodAll_cons_mk (Below.trod laidOut (by kernel_rfl) (of_decide_eq_true (by kernel_rfl)) k6 bel lt6) (trodAll_cons_mk (Below.trod laidOut (by kernel_rfl) (of_decide_eq_true (by kernel_rfl)) k7 bel lt7) (trodAll_cons_mk (Below.trod laidOut (by kernel_rfl) (of_decide_eq_true (by kernel_rfl)) k8 bel lt8) (trodAll_cons_mk (Below.trod laidOut (by kernel_rfl) (of_decide_eq_true (by kernel_rfl)) k9 bel lt9) (trodAll_cons_mk (Below.trod laidOut (by kernel_rfl) (of_decide_eq_true (by kernel_rfl)) k10 bel lt10) trodAll_mk0))))))))))), rfl, bel.frame _, fun h => by cases h⟩

theorem over : Rows.lawS0038ACopyOwnRow.holds Yba.pinned (OpenSpec.ofChange Rows.lawS0038ACopyOwnSpec) :=
  OpenClaim.holds_of_wide 3 Yba.f3 rfl rfl rfl rfl rfl rfl rfl ⟨rfl, rfl, rfl, rfl, rfl⟩ rfl rfl rfl rfl rfl (by kernel_rfl) Yba.func3 (by kernel_rfl)
    (of_decide_eq_true (by kernel_rfl)) (by unfold Func.isWrapper; first | (rw [if_pos (by decide +kernel)]; kernel_rfl) | (rw [if_neg (by decide +kernel)]; exact ⟨rfl, rfl⟩))
    (fun os started H enc _ => lifted os started H enc)

theorem proved : Rows.LawS0038ACopyOwnSaid := over
end Go.Proofs.Ybulktm.lawS0038ACopyOwn
