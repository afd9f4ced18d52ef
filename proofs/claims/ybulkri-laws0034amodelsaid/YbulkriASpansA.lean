/-
  LawS0034AModel: (*Schedule).spans.
-/
import Derived.Test.YbulkriATable
import Derived.Deep.CutRange
namespace Go.Proofs.Ybulkri.A
open Go.RowKit
set_option linter.unusedVariables false
set_option linter.unusedSimpArgs false

theorem info63 : (Yba.prog.info? 63).map (fun i => (i.zero, i.size, i.bytes)) = some (some (.agg #[.int .i64 0, .int .i64 0, .int .i64 0, .int .i64 0, .int .i64 0, .int .i64 0]), 6, 48) := by kernel_rfl

/-- four new blocks -/
theorem four0 (W : World) (e : TypeId) (c : Array Value) (o2 o3 o4 : Obj) : Blk ((((W.alloc (.cells c e)).alloc o2).alloc o3).alloc o4).drew W.heap.size e c := ((((Blk.new W e c).alloc o2).alloc o3).alloc o4).drew
theorem four1 (W : World) (e : TypeId) (c : Array Value) (o1 o3 o4 : Obj) : Blk ((((W.alloc o1).alloc (.cells c e)).alloc o3).alloc o4).drew (W.heap.size + 1) e c := by
  have := ((Blk.new (W.alloc o1) e c).alloc o3).alloc o4
  rw [World.size_alloc] at this
  exact this.drew
theorem four2 (W : World) (e : TypeId) (c : Array Value) (o1 o2 o4 : Obj) : Blk ((((W.alloc o1).alloc o2).alloc (.cells c e)).alloc o4).drew (W.heap.size + 1 + 1) e c := by
  have := (Blk.new ((W.alloc o1).alloc o2) e c).alloc o4
  rw [World.size_alloc, World.size_alloc] at this
  exact this.drew
theorem four3 (W : World) (e : TypeId) (c : Array Value) (o1 o2 o3 : Obj) : Blk ((((W.alloc o1).alloc o2).alloc o3).alloc (.cells c e)).drew (W.heap.size + 1 + 1 + 1) e c := by
  have := Blk.new (((W.alloc o1).alloc o2).alloc o3) e c
  rw [World.size_alloc, World.size_alloc, World.size_alloc] at this
  exact this.drew
theorem four_below (W : World) (o1 o2 o3 o4 : Obj) : Below W.heap.size W ((((W.alloc o1).alloc o2).alloc o3).alloc o4).drew :=
  (((((Below.refl _ W).alloc (Nat.le_refl _) o1).alloc (by simp) o2).alloc (by simp; omega) o3).alloc (by simp; omega) o4).drew

/-- the cells of L.length = 0 spans with room for M -/
theorem irow_of {W : World} {g n : Nat} (h : Blk W g 3 (Array.replicate n (Value.int .i64 0))) : IRow W g (List.replicate n 0) := by
  unfold IRow
  simpa using h

theorem make_spans (M : Nat) (hM : M ≤ 100000) : ∃ C : Array Value, C.size = M * 6 ∧ ∀ w : World, (Instr.makeSlice 52 (.int .i64 0) (.int .i64 (M : Int))).run Yba.prog w = .ok (.slice (some ⟨w.heap.size, 0, none⟩) 0 M) (w.alloc (.cells C 63)) := by
  obtain ⟨i, hi, h0, h1, h2⟩ := info_parts info63
  refine ⟨madeCells (Value.agg #[.int .i64 0, .int .i64 0, .int .i64 0, .int .i64 0, .int .i64 0, .int .i64 0]).cells (M * 6), size_madeCells _ _, fun w => ?_⟩
  have := run_make (P := Yba.prog) w 52 63 i _ Yba.underlying52 hi h0 .i64 .i64 (0 : Int) (M : Int) (by omega) (by omega) (by rw [h2]; omega) (by omega)
  rw [this, h1]
  rfl

theorem drew_grown {w w' : World} {o : Obj} {row : Option Nat} (h : (w.alloc o).drew.grownBy w' row) : (w.drew.alloc o).grownBy w' row := h

theorem one_new (w : World) (a : Value) (t : TypeId) : ∀ j u, [a][j]? = some u → (w.alloc (.cells #[a] t)).drew.cell? ((⟨w.heap.size, 0, none⟩ : Addr).add j) = some u := by
  intro j u hj
  match j, hj with
  | 0, hj => simp at hj; subst hj; simp [Addr.add]

theorem six_new (w : World) (a b c d e f : Value) (t : TypeId) : ∀ j u, [a, b, c, d, e, f][j]? = some u → (w.alloc (.cells #[a, b, c, d, e, f] t)).drew.cell? ((⟨w.heap.size, 0, none⟩ : Addr).add j) = some u := by
  intro j u hj
  match j, hj with
  | 0, hj => simp at hj; subst hj; simp [Addr.add]
  | 1, hj => simp at hj; subst hj; simp [Addr.add]
  | 2, hj => simp at hj; subst hj; simp [Addr.add]
  | 3, hj => simp at hj; subst hj; simp [Addr.add]
  | 4, hj => simp at hj; subst hj; simp [Addr.add]
  | 5, hj => simp at hj; subst hj; simp [Addr.add]

/-- a region of a function's code -/
def regionOf (n : Nat) : Code → Option Code
  | .region k ops d => bif Nat.beq k n then some (.region k ops d) else none
  | .seq a b => match regionOf n a with
    | some c => some c
    | none => regionOf n b
  | .cond _ a b => match regionOf n a with
    | some c => some c
    | none => regionOf n b
  | .block _ c => regionOf n c
  | .loop c => regionOf n c
  | .scope c => regionOf n c
  | _ => none
noncomputable def reg13 (n : Nat) : Code := ((Yba.f13.body.bind (regionOf n)).getD .skip)

set_option maxHeartbeats 8000000 in
set_option maxRecDepth 100000 in
/-- the table, made -/
theorem spans_make {W : World} {A S M nX ci : Nat} {av ai : Option Addr} {ga : Value} {C : Array Value} (hA : Blk W A 54 #[ga, .slice av M M]) (cS2 : W.cell? ⟨S, 2, none⟩ = some (.slice ai nX ci)) (hSl : Hid (S < W.heap.size)) (hX : nX ≤ 1024) (hM : M ≤ 1024)
    (hmk0 : ∀ w : World, (Instr.makeSlice 52 (.int .i64 0) (.int .i64 (M : Int))).run Yba.prog w = .ok (.slice (some ⟨w.heap.size, 0, none⟩) 0 M) (w.alloc (.cells C 63)))
    (hmk1 : ∀ w : World, (Instr.makeSlice 29 (.int .i64 ((nX : Int) + 1)) (.int .i64 ((nX : Int) + 1))).run Yba.prog w = .ok (.slice (some ⟨w.heap.size, 0, none⟩) (nX + 1) (nX + 1)) (w.alloc (.cells (Array.replicate (nX + 1) (Value.int .i64 0)) 3)))
    {K : Act → World → Prop} {Q : Exit → Act → World → Prop} {s1 s2 s3 s4 s6 s7 s8 s9 s10 s11 s12 s13 s14 s15 s16 s17 s18 s19 s20 s21 s22 s23 s24 s25 s26 s27 s28 s29 s30 s31 s32 s33 s34 s35 : Value} {rest : List Value}
    (hK : ∀ (T g0 g1 g3 : Nat) (wc : World), (Blk wc T 56 #[.slice (some ⟨g0, 0, none⟩) 0 M, .slice (some ⟨g1, 0, none⟩) (nX + 1) (nX + 1), .slice none 0 0, .slice (some ⟨g3, 0, none⟩) (nX + 1) (nX + 1), .slice none 0 0, .slice none 0 0] ∧ Blk wc g0 63 C ∧ Blk wc g1 3 (Array.replicate (nX + 1) (Value.int .i64 0)) ∧ Blk wc g3 3 (Array.replicate (nX + 1) (Value.int .i64 0)) ∧ g1 ≠ g3 ∧ W.heap.size ≤ T ∧ W.heap.size ≤ g0 ∧ W.heap.size ≤ g1 ∧ W.heap.size ≤ g3 ∧ Below W.heap.size W wc) → K ⟨((.pointer (some ⟨S, 0, none⟩)) :: s1 :: s2 :: s3 :: s4 :: (.pointer (some ⟨A, 0, none⟩)) :: (.pointer (some ⟨T, 0, none⟩)) :: s7 :: s8 :: s9 :: s10 :: s11 :: s12 :: s13 :: s14 :: s15 :: s16 :: (.pointer (some ⟨A, 1, none⟩)) :: (.slice av M M) :: (.int .i64 (M : Int)) :: (.slice (some ⟨g0, 0, none⟩) 0 M) :: (.pointer (some ⟨S, 0, none⟩)) :: (.pointer (some ⟨S, 0, none⟩)) :: (.pointer (some ⟨S, 2, none⟩)) :: (.slice ai nX ci) :: (.int .i64 (nX : Int)) :: (.int .i64 ((nX : Int) + 1)) :: (.slice (some ⟨g1, 0, none⟩) (nX + 1) (nX + 1)) :: (.pointer (some ⟨S, 0, none⟩)) :: (.pointer (some ⟨S, 0, none⟩)) :: (.pointer (some ⟨S, 2, none⟩)) :: (.slice ai nX ci) :: (.int .i64 (nX : Int)) :: (.int .i64 ((nX : Int) + 1)) :: (.slice (some ⟨g3, 0, none⟩) (nX + 1) (nX + 1)) :: (.agg #[.slice (some ⟨g0, 0, none⟩) 0 M, .slice (some ⟨g1, 0, none⟩) (nX + 1) (nX + 1), .slice none 0 0, .slice (some ⟨g3, 0, none⟩) (nX + 1) (nX + 1), .slice none 0 0, .slice none 0 0]) :: rest).toArray, []⟩ wc) :
    Code.wp Yba.prog (reg13 2) (Exit.then K Q) ⟨((.pointer (some ⟨S, 0, none⟩)) :: s1 :: s2 :: s3 :: s4 :: (.pointer (some ⟨A, 0, none⟩)) :: s6 :: s7 :: s8 :: s9 :: s10 :: s11 :: s12 :: s13 :: s14 :: s15 :: s16 :: s17 :: s18 :: s19 :: s20 :: s21 :: s22 :: s23 :: s24 :: s25 :: s26 :: s27 :: s28 :: s29 :: s30 :: s31 :: s32 :: s33 :: s34 :: s35 :: rest).toArray, []⟩ W := by
  have hwr : IntKind.i64.wrap ((nX : Int) + 1) = (nX : Int) + 1 := wrapI _ (by omega)
  have cA1 := hA.cellOf (j := 1) rfl
  conv => arg 2; whnf
  refine wp_region_noPanic ?_
  refine wp_region_held_drew (S := fun w' => Below W.heap.size W w') (by kernel_rfl) (Below.refl _ _).drew (fun hHeld => ?_)
  refine wpAnyH_take (i := 0) (v := .pointer (some ⟨A, 1, none⟩)) rfl (by kernel_rfl) (by kernel_rfl) (by kernel_rfl) (fun _ _ _ h => h) (Or.inl ⟨by rfl, fun w hSw => by go_simp⟩) hHeld ?_
  try simp only [Act.put, List.setIfInBounds_toArray, List.set_cons_zero, List.set_cons_succ]
  refine wpAnyH_take (i := 1) (v := .slice av M M) rfl (by kernel_rfl) (by kernel_rfl) (by kernel_rfl) (fun _ _ _ h => h) (Or.inl ⟨by rfl, fun w hSw => by have := (hSw.cell (p := ⟨A, 1, none⟩) hA.lt).trans cA1; go_simp⟩) hHeld ?_
  try simp only [Act.put, List.setIfInBounds_toArray, List.set_cons_zero, List.set_cons_succ]
  refine wpAnyH_take (i := 2) (v := .int .i64 (M : Int)) rfl (by kernel_rfl) (by kernel_rfl) (by kernel_rfl) (fun _ _ _ h => h) (Or.inl ⟨by rfl, fun w hSw => by go_simp⟩) hHeld ?_
  try simp only [Act.put, List.setIfInBounds_toArray, List.set_cons_zero, List.set_cons_succ]
  refine wpAnyH_take (i := 4) (v := .pointer (some ⟨S, 0, none⟩)) rfl (by kernel_rfl) (by kernel_rfl) (by kernel_rfl) (fun _ _ _ h => h) (Or.inl ⟨by rfl, fun w hSw => by go_simp⟩) hHeld ?_
  try simp only [Act.put, List.setIfInBounds_toArray, List.set_cons_zero, List.set_cons_succ]
  refine wpAnyH_take (i := 5) (v := .pointer (some ⟨S, 0, none⟩)) rfl (by kernel_rfl) (by kernel_rfl) (by kernel_rfl) (fun _ _ _ h => h) (Or.inl ⟨by rfl, fun w hSw => by go_simp⟩) hHeld ?_
  try simp only [Act.put, List.setIfInBounds_toArray, List.set_cons_zero, List.set_cons_succ]
  refine wpAnyH_take (i := 6) (v := .pointer (some ⟨S, 2, none⟩)) rfl (by kernel_rfl) (by kernel_rfl) (by kernel_rfl) (fun _ _ _ h => h) (Or.inl ⟨by rfl, fun w hSw => by go_simp⟩) hHeld ?_
  try simp only [Act.put, List.setIfInBounds_toArray, List.set_cons_zero, List.set_cons_succ]
  refine wpAnyH_take (i := 7) (v := .slice ai nX ci) rfl (by kernel_rfl) (by kernel_rfl) (by kernel_rfl) (fun _ _ _ h => h) (Or.inl ⟨by rfl, fun w hSw => by have := (hSw.cell (p := ⟨S, 2, none⟩) hSl.out).trans cS2; go_simp⟩) hHeld ?_
  try simp only [Act.put, List.setIfInBounds_toArray, List.set_cons_zero, List.set_cons_succ]
  refine wpAnyH_take (i := 8) (v := .int .i64 (nX : Int)) rfl (by kernel_rfl) (by kernel_rfl) (by kernel_rfl) (fun _ _ _ h => h) (Or.inl ⟨by rfl, fun w hSw => by go_simp⟩) hHeld ?_
  try simp only [Act.put, List.setIfInBounds_toArray, List.set_cons_zero, List.set_cons_succ]
  refine wpAnyH_take (i := 9) (v := .int .i64 ((nX : Int) + 1)) rfl (by kernel_rfl) (by kernel_rfl) (by kernel_rfl) (fun _ _ _ h => h) (Or.inl ⟨by rfl, fun w hSw => by go_simp⟩) hHeld ?_
  try simp only [Act.put, List.setIfInBounds_toArray, List.set_cons_zero, List.set_cons_succ]
  refine wpAnyH_take (i := 11) (v := .pointer (some ⟨S, 0, none⟩)) rfl (by kernel_rfl) (by kernel_rfl) (by kernel_rfl) (fun _ _ _ h => h) (Or.inl ⟨by rfl, fun w hSw => by go_simp⟩) hHeld ?_
  try simp only [Act.put, List.setIfInBounds_toArray, List.set_cons_zero, List.set_cons_succ]
  refine wpAnyH_take (i := 12) (v := .pointer (some ⟨S, 0, none⟩)) rfl (by kernel_rfl) (by kernel_rfl) (by kernel_rfl) (fun _ _ _ h => h) (Or.inl ⟨by rfl, fun w hSw => by go_simp⟩) hHeld ?_
  try simp only [Act.put, List.setIfInBounds_toArray, List.set_cons_zero, List.set_cons_succ]
  refine wpAnyH_take (i := 13) (v := .pointer (some ⟨S, 2, none⟩)) rfl (by kernel_rfl) (by kernel_rfl) (by kernel_rfl) (fun _ _ _ h => h) (Or.inl ⟨by rfl, fun w hSw => by go_simp⟩) hHeld ?_
  try simp only [Act.put, List.setIfInBounds_toArray, List.set_cons_zero, List.set_cons_succ]
  refine wpAnyH_take (i := 14) (v := .slice ai nX ci) rfl (by kernel_rfl) (by kernel_rfl) (by kernel_rfl) (fun _ _ _ h => h) (Or.inl ⟨by rfl, fun w hSw => by have := (hSw.cell (p := ⟨S, 2, none⟩) hSl.out).trans cS2; go_simp⟩) hHeld ?_
  try simp only [Act.put, List.setIfInBounds_toArray, List.set_cons_zero, List.set_cons_succ]
  refine wpAnyH_take (i := 15) (v := .int .i64 (nX : Int)) rfl (by kernel_rfl) (by kernel_rfl) (by kernel_rfl) (fun _ _ _ h => h) (Or.inl ⟨by rfl, fun w hSw => by go_simp⟩) hHeld ?_
  try simp only [Act.put, List.setIfInBounds_toArray, List.set_cons_zero, List.set_cons_succ]
  refine wpAnyH_take (i := 16) (v := .int .i64 ((nX : Int) + 1)) rfl (by kernel_rfl) (by kernel_rfl) (by kernel_rfl) (fun _ _ _ h => h) (Or.inl ⟨by rfl, fun w hSw => by go_simp⟩) hHeld ?_
  try simp only [Act.put, List.setIfInBounds_toArray, List.set_cons_zero, List.set_cons_succ]
  refine wpAnyH_ready (rs := [3, 10, 17, 19]) (by kernel_rfl) (by simp) ?_
  refine AllReadyH.cons rfl (fun K hK => ?_) (AllReadyH.cons rfl (fun K hK => ?_) (AllReadyH.cons rfl (fun K hK => ?_) (AllReadyH.cons rfl (fun K hK => ?_) AllReadyH.nil)))
  · go_simp
    refine hK.out _ _ (hHeld.alloc hHeld.size _) (fun hHeld => ?_)
    clear hK K
    try simp only [Act.put, List.setIfInBounds_toArray, List.set_cons_zero, List.set_cons_succ]
    refine wpAnyH_ready (rs := [10, 17, 19]) (by kernel_rfl) (by simp) ?_
    refine AllReadyH.cons rfl (fun K hK => ?_) (AllReadyH.cons rfl (fun K hK => ?_) (AllReadyH.cons rfl (fun K hK => ?_) AllReadyH.nil))
    · go_simp
      refine hK.out _ _ (hHeld.alloc hHeld.size _) (fun hHeld => ?_)
      clear hK K
      try simp only [Act.put, List.setIfInBounds_toArray, List.set_cons_zero, List.set_cons_succ]
      refine wpAnyH_ready (rs := [17, 19]) (by kernel_rfl) (by simp) ?_
      refine AllReadyH.cons rfl (fun K hK => ?_) (AllReadyH.cons rfl (fun K hK => ?_) AllReadyH.nil)
      · go_simp
        refine hK.out _ _ (hHeld.alloc hHeld.size _) (fun hHeld => ?_)
        clear hK K
        try simp only [Act.put, List.setIfInBounds_toArray, List.set_cons_zero, List.set_cons_succ]
        refine wpAnyH_take (i := 18) (v := .agg #[.slice (some ⟨W.heap.size, 0, none⟩) 0 M, .slice (some ⟨W.heap.size + 1, 0, none⟩) (nX + 1) (nX + 1), .slice none 0 0, .slice (some ⟨W.heap.size + 1 + 1, 0, none⟩) (nX + 1) (nX + 1), .slice none 0 0, .slice none 0 0]) rfl (by kernel_rfl) (by kernel_rfl) (by kernel_rfl) (fun _ _ _ h => h) (Or.inl ⟨by rfl, fun w hSw => by go_simp⟩) hHeld ?_
        try simp only [Act.put, List.setIfInBounds_toArray, List.set_cons_zero, List.set_cons_succ]
        refine wpAnyH_ready (rs := [19]) (by kernel_rfl) (by simp) ?_
        refine AllReadyH.cons rfl (fun K hK => ?_) AllReadyH.nil
        · go_simp
          refine hK.out _ _ (hHeld.alloc hHeld.size _) (fun hHeld => ?_)
          clear hK K
          try simp only [Act.put, List.setIfInBounds_toArray, List.set_cons_zero, List.set_cons_succ]
          refine wpAnyH_ready (rs := [20]) (by kernel_rfl) (by simp) ?_
          refine AllReadyH.cons rfl (fun K hK => ?_) AllReadyH.nil
          go_simp
          refine hK.out _ _ (four_below W _ _ _ _) (fun hHeld => ?_)
          clear hK K
          try simp only [Act.put, List.setIfInBounds_toArray, List.set_cons_zero, List.set_cons_succ]
          refine wpAnyH_done (by kernel_rfl) ?_ _
          refine NoPanic.normal ?_
          exact hK (W.heap.size + 1 + 1 + 1) (W.heap.size) (W.heap.size + 1) (W.heap.size + 1 + 1) _ ⟨four3 W _ _ _ _ _, four0 W _ _ _ _ _, four1 W _ _ _ _ _, four2 W _ _ _ _ _, by omega, by omega, by omega, by omega, by omega, four_below W _ _ _ _⟩
      · go_simp
        refine hK.out _ _ (hHeld.alloc hHeld.size _) (fun hHeld => ?_)
        clear hK K
        try simp only [Act.put, List.setIfInBounds_toArray, List.set_cons_zero, List.set_cons_succ]
        refine wpAnyH_ready (rs := [17]) (by kernel_rfl) (by simp) ?_
        refine AllReadyH.cons rfl (fun K hK => ?_) AllReadyH.nil
        · go_simp
          refine hK.out _ _ (hHeld.alloc hHeld.size _) (fun hHeld => ?_)
          clear hK K
          try simp only [Act.put, List.setIfInBounds_toArray, List.set_cons_zero, List.set_cons_succ]
          refine wpAnyH_take (i := 18) (v := .agg #[.slice (some ⟨W.heap.size, 0, none⟩) 0 M, .slice (some ⟨W.heap.size + 1, 0, none⟩) (nX + 1) (nX + 1), .slice none 0 0, .slice (some ⟨W.heap.size + 1 + 1 + 1, 0, none⟩) (nX + 1) (nX + 1), .slice none 0 0, .slice none 0 0]) rfl (by kernel_rfl) (by kernel_rfl) (by kernel_rfl) (fun _ _ _ h => h) (Or.inl ⟨by rfl, fun w hSw => by go_simp⟩) hHeld ?_
          try simp only [Act.put, List.setIfInBounds_toArray, List.set_cons_zero, List.set_cons_succ]
          refine wpAnyH_ready (rs := [20]) (by kernel_rfl) (by simp) ?_
          refine AllReadyH.cons rfl (fun K hK => ?_) AllReadyH.nil
          go_simp
          refine hK.out _ _ (four_below W _ _ _ _) (fun hHeld => ?_)
          clear hK K
          try simp only [Act.put, List.setIfInBounds_toArray, List.set_cons_zero, List.set_cons_succ]
          refine wpAnyH_done (by kernel_rfl) ?_ _
          refine NoPanic.normal ?_
          exact hK (W.heap.size + 1 + 1) (W.heap.size) (W.heap.size + 1) (W.heap.size + 1 + 1 + 1) _ ⟨four2 W _ _ _ _ _, four0 W _ _ _ _ _, four1 W _ _ _ _ _, four3 W _ _ _ _ _, by omega, by omega, by omega, by omega, by omega, four_below W _ _ _ _⟩
    · go_simp
      refine hK.out _ _ (hHeld.alloc hHeld.size _) (fun hHeld => ?_)
      clear hK K
      try simp only [Act.put, List.setIfInBounds_toArray, List.set_cons_zero, List.set_cons_succ]
      refine wpAnyH_ready (rs := [10, 19]) (by kernel_rfl) (by simp) ?_
      refine AllReadyH.cons rfl (fun K hK => ?_) (AllReadyH.cons rfl (fun K hK => ?_) AllReadyH.nil)
      · go_simp
        refine hK.out _ _ (hHeld.alloc hHeld.size _) (fun hHeld => ?_)
        clear hK K
        try simp only [Act.put, List.setIfInBounds_toArray, List.set_cons_zero, List.set_cons_succ]
        refine wpAnyH_take (i := 18) (v := .agg #[.slice (some ⟨W.heap.size, 0, none⟩) 0 M, .slice (some ⟨W.heap.size + 1 + 1, 0, none⟩) (nX + 1) (nX + 1), .slice none 0 0, .slice (some ⟨W.heap.size + 1, 0, none⟩) (nX + 1) (nX + 1), .slice none 0 0, .slice none 0 0]) rfl (by kernel_rfl) (by kernel_rfl) (by kernel_rfl) (fun _ _ _ h => h) (Or.inl ⟨by rfl, fun w hSw => by go_simp⟩) hHeld ?_
        try simp only [Act.put, List.setIfInBounds_toArray, List.set_cons_zero, List.set_cons_succ]
        refine wpAnyH_ready (rs := [19]) (by kernel_rfl) (by simp) ?_
        refine AllReadyH.cons rfl (fun K hK => ?_) AllReadyH.nil
        · go_simp
          refine hK.out _ _ (hHeld.alloc hHeld.size _) (fun hHeld => ?_)
          clear hK K
          try simp only [Act.put, List.setIfInBounds_toArray, List.set_cons_zero, List.set_cons_succ]
          refine wpAnyH_ready (rs := [20]) (by kernel_rfl) (by simp) ?_
          refine AllReadyH.cons rfl (fun K hK => ?_) AllReadyH.nil
          go_simp
          refine hK.out _ _ (four_below W _ _ _ _) (fun hHeld => ?_)
          clear hK K
          try simp only [Act.put, List.setIfInBounds_toArray, List.set_cons_zero, List.set_cons_succ]
          refine wpAnyH_done (by kernel_rfl) ?_ _
          refine NoPanic.normal ?_
          exact hK (W.heap.size + 1 + 1 + 1) (W.heap.size) (W.heap.size + 1 + 1) (W.heap.size + 1) _ ⟨four3 W _ _ _ _ _, four0 W _ _ _ _ _, four2 W _ _ _ _ _, four1 W _ _ _ _ _, by omega, by omega, by omega, by omega, by omega, four_below W _ _ _ _⟩
      · go_simp
        refine hK.out _ _ (hHeld.alloc hHeld.size _) (fun hHeld => ?_)
        clear hK K
        try simp only [Act.put, List.setIfInBounds_toArray, List.set_cons_zero, List.set_cons_succ]
        refine wpAnyH_ready (rs := [10]) (by kernel_rfl) (by simp) ?_
        refine AllReadyH.cons rfl (fun K hK => ?_) AllReadyH.nil
        · go_simp
          refine hK.out _ _ (hHeld.alloc hHeld.size _) (fun hHeld => ?_)
          clear hK K
          try simp only [Act.put, List.setIfInBounds_toArray, List.set_cons_zero, List.set_cons_succ]
          refine wpAnyH_take (i := 18) (v := .agg #[.slice (some ⟨W.heap.size, 0, none⟩) 0 M, .slice (some ⟨W.heap.size + 1 + 1 + 1, 0, none⟩) (nX + 1) (nX + 1), .slice none 0 0, .slice (some ⟨W.heap.size + 1, 0, none⟩) (nX + 1) (nX + 1), .slice none 0 0, .slice none 0 0]) rfl (by kernel_rfl) (by kernel_rfl) (by kernel_rfl) (fun _ _ _ h => h) (Or.inl ⟨by rfl, fun w hSw => by go_simp⟩) hHeld ?_
          try simp only [Act.put, List.setIfInBounds_toArray, List.set_cons_zero, List.set_cons_succ]
          refine wpAnyH_ready (rs := [20]) (by kernel_rfl) (by simp) ?_
          refine AllReadyH.cons rfl (fun K hK => ?_) AllReadyH.nil
          go_simp
          refine hK.out _ _ (four_below W _ _ _ _) (fun hHeld => ?_)
          clear hK K
          try simp only [Act.put, List.setIfInBounds_toArray, List.set_cons_zero, List.set_cons_succ]
          refine wpAnyH_done (by kernel_rfl) ?_ _
          refine NoPanic.normal ?_
          exact hK (W.heap.size + 1 + 1) (W.heap.size) (W.heap.size + 1 + 1 + 1) (W.heap.size + 1) _ ⟨four2 W _ _ _ _ _, four0 W _ _ _ _ _, four3 W _ _ _ _ _, four1 W _ _ _ _ _, by omega, by omega, by omega, by omega, by omega, four_below W _ _ _ _⟩
    · go_simp
      refine hK.out _ _ (hHeld.alloc hHeld.size _) (fun hHeld => ?_)
      clear hK K
      try simp only [Act.put, List.setIfInBounds_toArray, List.set_cons_zero, List.set_cons_succ]
      refine wpAnyH_ready (rs := [10, 17]) (by kernel_rfl) (by simp) ?_
      refine AllReadyH.cons rfl (fun K hK => ?_) (AllReadyH.cons rfl (fun K hK => ?_) AllReadyH.nil)
      · go_simp
        refine hK.out _ _ (hHeld.alloc hHeld.size _) (fun hHeld => ?_)
        clear hK K
        try simp only [Act.put, List.setIfInBounds_toArray, List.set_cons_zero, List.set_cons_succ]
        refine wpAnyH_ready (rs := [17]) (by kernel_rfl) (by simp) ?_
        refine AllReadyH.cons rfl (fun K hK => ?_) AllReadyH.nil
        · go_simp
          refine hK.out _ _ (hHeld.alloc hHeld.size _) (fun hHeld => ?_)
          clear hK K
          try simp only [Act.put, List.setIfInBounds_toArray, List.set_cons_zero, List.set_cons_succ]
          refine wpAnyH_take (i := 18) (v := .agg #[.slice (some ⟨W.heap.size, 0, none⟩) 0 M, .slice (some ⟨W.heap.size + 1 + 1, 0, none⟩) (nX + 1) (nX + 1), .slice none 0 0, .slice (some ⟨W.heap.size + 1 + 1 + 1, 0, none⟩) (nX + 1) (nX + 1), .slice none 0 0, .slice none 0 0]) rfl (by kernel_rfl) (by kernel_rfl) (by kernel_rfl) (fun _ _ _ h => h) (Or.inl ⟨by rfl, fun w hSw => by go_simp⟩) hHeld ?_
          try simp only [Act.put, List.setIfInBounds_toArray, List.set_cons_zero, List.set_cons_succ]
          refine wpAnyH_ready (rs := [20]) (by kernel_rfl) (by simp) ?_
          refine AllReadyH.cons rfl (fun K hK => ?_) AllReadyH.nil
          go_simp
          refine hK.out _ _ (four_below W _ _ _ _) (fun hHeld => ?_)
          clear hK K
          try simp only [Act.put, List.setIfInBounds_toArray, List.set_cons_zero, List.set_cons_succ]
          refine wpAnyH_done (by kernel_rfl) ?_ _
          refine NoPanic.normal ?_
          exact hK (W.heap.size + 1) (W.heap.size) (W.heap.size + 1 + 1) (W.heap.size + 1 + 1 + 1) _ ⟨four1 W _ _ _ _ _, four0 W _ _ _ _ _, four2 W _ _ _ _ _, four3 W _ _ _ _ _, by omega, by omega, by omega, by omega, by omega, four_below W _ _ _ _⟩
      · go_simp
        refine hK.out _ _ (hHeld.alloc hHeld.size _) (fun hHeld => ?_)
        clear hK K
        try simp only [Act.put, List.setIfInBounds_toArray, List.set_cons_zero, List.set_cons_succ]
        refine wpAnyH_ready (rs := [10]) (by kernel_rfl) (by simp) ?_
        refine AllReadyH.cons rfl (fun K hK => ?_) AllReadyH.nil
        · go_simp
          refine hK.out _ _ (hHeld.alloc hHeld.size _) (fun hHeld => ?_)
          clear hK K
          try simp only [Act.put, List.setIfInBounds_toArray, List.set_cons_zero, List.set_cons_succ]
          refine wpAnyH_take (i := 18) (v := .agg #[.slice (some ⟨W.heap.size, 0, none⟩) 0 M, .slice (some ⟨W.heap.size + 1 + 1 + 1, 0, none⟩) (nX + 1) (nX + 1), .slice none 0 0, .slice (some ⟨W.heap.size + 1 + 1, 0, none⟩) (nX + 1) (nX + 1), .slice none 0 0, .slice none 0 0]) rfl (by kernel_rfl) (by kernel_rfl) (by kernel_rfl) (fun _ _ _ h => h) (Or.inl ⟨by rfl, fun w hSw => by go_simp⟩) hHeld ?_
          try simp only [Act.put, List.setIfInBounds_toArray, List.set_cons_zero, List.set_cons_succ]
          refine wpAnyH_ready (rs := [20]) (by kernel_rfl) (by simp) ?_
          refine AllReadyH.cons rfl (fun K hK => ?_) AllReadyH.nil
          go_simp
          refine hK.out _ _ (four_below W _ _ _ _) (fun hHeld => ?_)
          clear hK K
          try simp only [Act.put, List.setIfInBounds_toArray, List.set_cons_zero, List.set_cons_succ]
          refine wpAnyH_done (by kernel_rfl) ?_ _
          refine NoPanic.normal ?_
          exact hK (W.heap.size + 1) (W.heap.size) (W.heap.size + 1 + 1 + 1) (W.heap.size + 1 + 1) _ ⟨four1 W _ _ _ _ _, four0 W _ _ _ _ _, four3 W _ _ _ _ _, four2 W _ _ _ _ _, by omega, by omega, by omega, by omega, by omega, four_below W _ _ _ _⟩
  · go_simp
    refine hK.out _ _ (hHeld.alloc hHeld.size _) (fun hHeld => ?_)
    clear hK K
    try simp only [Act.put, List.setIfInBounds_toArray, List.set_cons_zero, List.set_cons_succ]
    refine wpAnyH_ready (rs := [3, 17, 19]) (by kernel_rfl) (by simp) ?_
    refine AllReadyH.cons rfl (fun K hK => ?_) (AllReadyH.cons rfl (fun K hK => ?_) (AllReadyH.cons rfl (fun K hK => ?_) AllReadyH.nil))
    · go_simp
      refine hK.out _ _ (hHeld.alloc hHeld.size _) (fun hHeld => ?_)
      clear hK K
      try simp only [Act.put, List.setIfInBounds_toArray, List.set_cons_zero, List.set_cons_succ]
      refine wpAnyH_ready (rs := [17, 19]) (by kernel_rfl) (by simp) ?_
      refine AllReadyH.cons rfl (fun K hK => ?_) (AllReadyH.cons rfl (fun K hK => ?_) AllReadyH.nil)
      · go_simp
        refine hK.out _ _ (hHeld.alloc hHeld.size _) (fun hHeld => ?_)
        clear hK K
        try simp only [Act.put, List.setIfInBounds_toArray, List.set_cons_zero, List.set_cons_succ]
        refine wpAnyH_take (i := 18) (v := .agg #[.slice (some ⟨W.heap.size + 1, 0, none⟩) 0 M, .slice (some ⟨W.heap.size, 0, none⟩) (nX + 1) (nX + 1), .slice none 0 0, .slice (some ⟨W.heap.size + 1 + 1, 0, none⟩) (nX + 1) (nX + 1), .slice none 0 0, .slice none 0 0]) rfl (by kernel_rfl) (by kernel_rfl) (by kernel_rfl) (fun _ _ _ h => h) (Or.inl ⟨by rfl, fun w hSw => by go_simp⟩) hHeld ?_
        try simp only [Act.put, List.setIfInBounds_toArray, List.set_cons_zero, List.set_cons_succ]
        refine wpAnyH_ready (rs := [19]) (by kernel_rfl) (by simp) ?_
        refine AllReadyH.cons rfl (fun K hK => ?_) AllReadyH.nil
        · go_simp
          refine hK.out _ _ (hHeld.alloc hHeld.size _) (fun hHeld => ?_)
          clear hK K
          try simp only [Act.put, List.setIfInBounds_toArray, List.set_cons_zero, List.set_cons_succ]
          refine wpAnyH_ready (rs := [20]) (by kernel_rfl) (by simp) ?_
          refine AllReadyH.cons rfl (fun K hK => ?_) AllReadyH.nil
          go_simp
          refine hK.out _ _ (four_below W _ _ _ _) (fun hHeld => ?_)
          clear hK K
          try simp only [Act.put, List.setIfInBounds_toArray, List.set_cons_zero, List.set_cons_succ]
          refine wpAnyH_done (by kernel_rfl) ?_ _
          refine NoPanic.normal ?_
          exact hK (W.heap.size + 1 + 1 + 1) (W.heap.size + 1) (W.heap.size) (W.heap.size + 1 + 1) _ ⟨four3 W _ _ _ _ _, four1 W _ _ _ _ _, four0 W _ _ _ _ _, four2 W _ _ _ _ _, by omega, by omega, by omega, by omega, by omega, four_below W _ _ _ _⟩
      · go_simp
        refine hK.out _ _ (hHeld.alloc hHeld.size _) (fun hHeld => ?_)
        clear hK K
        try simp only [Act.put, List.setIfInBounds_toArray, List.set_cons_zero, List.set_cons_succ]
        refine wpAnyH_ready (rs := [17]) (by kernel_rfl) (by simp) ?_
        refine AllReadyH.cons rfl (fun K hK => ?_) AllReadyH.nil
        · go_simp
          refine hK.out _ _ (hHeld.alloc hHeld.size _) (fun hHeld => ?_)
          clear hK K
          try simp only [Act.put, List.setIfInBounds_toArray, List.set_cons_zero, List.set_cons_succ]
          refine wpAnyH_take (i := 18) (v := .agg #[.slice (some ⟨W.heap.size + 1, 0, none⟩) 0 M, .slice (some ⟨W.heap.size, 0, none⟩) (nX + 1) (nX + 1), .slice none 0 0, .slice (some ⟨W.heap.size + 1 + 1 + 1, 0, none⟩) (nX + 1) (nX + 1), .slice none 0 0, .slice none 0 0]) rfl (by kernel_rfl) (by kernel_rfl) (by kernel_rfl) (fun _ _ _ h => h) (Or.inl ⟨by rfl, fun w hSw => by go_simp⟩) hHeld ?_
          try simp only [Act.put, List.setIfInBounds_toArray, List.set_cons_zero, List.set_cons_succ]
          refine wpAnyH_ready (rs := [20]) (by kernel_rfl) (by simp) ?_
          refine AllReadyH.cons rfl (fun K hK => ?_) AllReadyH.nil
          go_simp
          refine hK.out _ _ (four_below W _ _ _ _) (fun hHeld => ?_)
          clear hK K
          try simp only [Act.put, List.setIfInBounds_toArray, List.set_cons_zero, List.set_cons_succ]
          refine wpAnyH_done (by kernel_rfl) ?_ _
          refine NoPanic.normal ?_
          exact hK (W.heap.size + 1 + 1) (W.heap.size + 1) (W.heap.size) (W.heap.size + 1 + 1 + 1) _ ⟨four2 W _ _ _ _ _, four1 W _ _ _ _ _, four0 W _ _ _ _ _, four3 W _ _ _ _ _, by omega, by omega, by omega, by omega, by omega, four_below W _ _ _ _⟩
    · go_simp
      refine hK.out _ _ (hHeld.alloc hHeld.size _) (fun hHeld => ?_)
      clear hK K
      try simp only [Act.put, List.setIfInBounds_toArray, List.set_cons_zero, List.set_cons_succ]
      refine wpAnyH_ready (rs := [3, 19]) (by kernel_rfl) (by simp) ?_
      refine AllReadyH.cons rfl (fun K hK => ?_) (AllReadyH.cons rfl (fun K hK => ?_) AllReadyH.nil)
      · go_simp
        refine hK.out _ _ (hHeld.alloc hHeld.size _) (fun hHeld => ?_)
        clear hK K
        try simp only [Act.put, List.setIfInBounds_toArray, List.set_cons_zero, List.set_cons_succ]
        refine wpAnyH_take (i := 18) (v := .agg #[.slice (some ⟨W.heap.size + 1 + 1, 0, none⟩) 0 M, .slice (some ⟨W.heap.size, 0, none⟩) (nX + 1) (nX + 1), .slice none 0 0, .slice (some ⟨W.heap.size + 1, 0, none⟩) (nX + 1) (nX + 1), .slice none 0 0, .slice none 0 0]) rfl (by kernel_rfl) (by kernel_rfl) (by kernel_rfl) (fun _ _ _ h => h) (Or.inl ⟨by rfl, fun w hSw => by go_simp⟩) hHeld ?_
        try simp only [Act.put, List.setIfInBounds_toArray, List.set_cons_zero, List.set_cons_succ]
        refine wpAnyH_ready (rs := [19]) (by kernel_rfl) (by simp) ?_
        refine AllReadyH.cons rfl (fun K hK => ?_) AllReadyH.nil
        · go_simp
          refine hK.out _ _ (hHeld.alloc hHeld.size _) (fun hHeld => ?_)
          clear hK K
          try simp only [Act.put, List.setIfInBounds_toArray, List.set_cons_zero, List.set_cons_succ]
          refine wpAnyH_ready (rs := [20]) (by kernel_rfl) (by simp) ?_
          refine AllReadyH.cons rfl (fun K hK => ?_) AllReadyH.nil
          go_simp
          refine hK.out _ _ (four_below W _ _ _ _) (fun hHeld => ?_)
          clear hK K
          try simp only [Act.put, List.setIfInBounds_toArray, List.set_cons_zero, List.set_cons_succ]
          refine wpAnyH_done (by kernel_rfl) ?_ _
          refine NoPanic.normal ?_
          exact hK (W.heap.size + 1 + 1 + 1) (W.heap.size + 1 + 1) (W.heap.size) (W.heap.size + 1) _ ⟨four3 W _ _ _ _ _, four2 W _ _ _ _ _, four0 W _ _ _ _ _, four1 W _ _ _ _ _, by omega, by omega, by omega, by omega, by omega, four_below W _ _ _ _⟩
      · go_simp
        refine hK.out _ _ (hHeld.alloc hHeld.size _) (fun hHeld => ?_)
        clear hK K
        try simp only [Act.put, List.setIfInBounds_toArray, List.set_cons_zero, List.set_cons_succ]
        refine wpAnyH_ready (rs := [3]) (by kernel_rfl) (by simp) ?_
        refine AllReadyH.cons rfl (fun K hK => ?_) AllReadyH.nil
        · go_simp
          refine hK.out _ _ (hHeld.alloc hHeld.size _) (fun hHeld => ?_)
          clear hK K
          try simp only [Act.put, List.setIfInBounds_toArray, List.set_cons_zero, List.set_cons_succ]
          refine wpAnyH_take (i := 18) (v := .agg #[.slice (some ⟨W.heap.size + 1 + 1 + 1, 0, none⟩) 0 M, .slice (some ⟨W.heap.size, 0, none⟩) (nX + 1) (nX + 1), .slice none 0 0, .slice (some ⟨W.heap.size + 1, 0, none⟩) (nX + 1) (nX + 1), .slice none 0 0, .slice none 0 0]) rfl (by kernel_rfl) (by kernel_rfl) (by kernel_rfl) (fun _ _ _ h => h) (Or.inl ⟨by rfl, fun w hSw => by go_simp⟩) hHeld ?_
          try simp only [Act.put, List.setIfInBounds_toArray, List.set_cons_zero, List.set_cons_succ]
          refine wpAnyH_ready (rs := [20]) (by kernel_rfl) (by simp) ?_
          refine AllReadyH.cons rfl (fun K hK => ?_) AllReadyH.nil
          go_simp
          refine hK.out _ _ (four_below W _ _ _ _) (fun hHeld => ?_)
          clear hK K
          try simp only [Act.put, List.setIfInBounds_toArray, List.set_cons_zero, List.set_cons_succ]
          refine wpAnyH_done (by kernel_rfl) ?_ _
          refine NoPanic.normal ?_
          exact hK (W.heap.size + 1 + 1) (W.heap.size + 1 + 1 + 1) (W.heap.size) (W.heap.size + 1) _ ⟨four2 W _ _ _ _ _, four3 W _ _ _ _ _, four0 W _ _ _ _ _, four1 W _ _ _ _ _, by omega, by omega, by omega, by omega, by omega, four_below W _ _ _ _⟩
    · go_simp
      refine hK.out _ _ (hHeld.alloc hHeld.size _) (fun hHeld => ?_)
      clear hK K
      try simp only [Act.put, List.setIfInBounds_toArray, List.set_cons_zero, List.set_cons_succ]
      refine wpAnyH_ready (rs := [3, 17]) (by kernel_rfl) (by simp) ?_
      refine AllReadyH.cons rfl (fun K hK => ?_) (AllReadyH.cons rfl (fun K hK => ?_) AllReadyH.nil)
      · go_simp
        refine hK.out _ _ (hHeld.alloc hHeld.size _) (fun hHeld => ?_)
        clear hK K
        try simp only [Act.put, List.setIfInBounds_toArray, List.set_cons_zero, List.set_cons_succ]
        refine wpAnyH_ready (rs := [17]) (by kernel_rfl) (by simp) ?_
        refine AllReadyH.cons rfl (fun K hK => ?_) AllReadyH.nil
        · go_simp
          refine hK.out _ _ (hHeld.alloc hHeld.size _) (fun hHeld => ?_)
          clear hK K
          try simp only [Act.put, List.setIfInBounds_toArray, List.set_cons_zero, List.set_cons_succ]
          refine wpAnyH_take (i := 18) (v := .agg #[.slice (some ⟨W.heap.size + 1 + 1, 0, none⟩) 0 M, .slice (some ⟨W.heap.size, 0, none⟩) (nX + 1) (nX + 1), .slice none 0 0, .slice (some ⟨W.heap.size + 1 + 1 + 1, 0, none⟩) (nX + 1) (nX + 1), .slice none 0 0, .slice none 0 0]) rfl (by kernel_rfl) (by kernel_rfl) (by kernel_rfl) (fun _ _ _ h => h) (Or.inl ⟨by rfl, fun w hSw => by go_simp⟩) hHeld ?_
          try simp only [Act.put, List.setIfInBounds_toArray, List.set_cons_zero, List.set_cons_succ]
          refine wpAnyH_ready (rs := [20]) (by kernel_rfl) (by simp) ?_
          refine AllReadyH.cons rfl (fun K hK => ?_) AllReadyH.nil
          go_simp
          refine hK.out _ _ (four_below W _ _ _ _) (fun hHeld => ?_)
          clear hK K
          try simp only [Act.put, List.setIfInBounds_toArray, List.set_cons_zero, List.set_cons_succ]
          refine wpAnyH_done (by kernel_rfl) ?_ _
          refine NoPanic.normal ?_
          exact hK (W.heap.size + 1) (W.heap.size + 1 + 1) (W.heap.size) (W.heap.size + 1 + 1 + 1) _ ⟨four1 W _ _ _ _ _, four2 W _ _ _ _ _, four0 W _ _ _ _ _, four3 W _ _ _ _ _, by omega, by omega, by omega, by omega, by omega, four_below W _ _ _ _⟩
      · go_simp
        refine hK.out _ _ (hHeld.alloc hHeld.size _) (fun hHeld => ?_)
        clear hK K
        try simp only [Act.put, List.setIfInBounds_toArray, List.set_cons_zero, List.set_cons_succ]
        refine wpAnyH_ready (rs := [3]) (by kernel_rfl) (by simp) ?_
        refine AllReadyH.cons rfl (fun K hK => ?_) AllReadyH.nil
        · go_simp
          refine hK.out _ _ (hHeld.alloc hHeld.size _) (fun hHeld => ?_)
          clear hK K
          try simp only [Act.put, List.setIfInBounds_toArray, List.set_cons_zero, List.set_cons_succ]
          refine wpAnyH_take (i := 18) (v := .agg #[.slice (some ⟨W.heap.size + 1 + 1 + 1, 0, none⟩) 0 M, .slice (some ⟨W.heap.size, 0, none⟩) (nX + 1) (nX + 1), .slice none 0 0, .slice (some ⟨W.heap.size + 1 + 1, 0, none⟩) (nX + 1) (nX + 1), .slice none 0 0, .slice none 0 0]) rfl (by kernel_rfl) (by kernel_rfl) (by kernel_rfl) (fun _ _ _ h => h) (Or.inl ⟨by rfl, fun w hSw => by go_simp⟩) hHeld ?_
          try simp only [Act.put, List.setIfInBounds_toArray, List.set_cons_zero, List.set_cons_succ]
          refine wpAnyH_ready (rs := [20]) (by kernel_rfl) (by simp) ?_
          refine AllReadyH.cons rfl (fun K hK => ?_) AllReadyH.nil
          go_simp
          refine hK.out _ _ (four_below W _ _ _ _) (fun hHeld => ?_)
          clear hK K
          try simp only [Act.put, List.setIfInBounds_toArray, List.set_cons_zero, List.set_cons_succ]
          refine wpAnyH_done (by kernel_rfl) ?_ _
          refine NoPanic.normal ?_
          exact hK (W.heap.size + 1) (W.heap.size + 1 + 1 + 1) (W.heap.size) (W.heap.size + 1 + 1) _ ⟨four1 W _ _ _ _ _, four3 W _ _ _ _ _, four0 W _ _ _ _ _, four2 W _ _ _ _ _, by omega, by omega, by omega, by omega, by omega, four_below W _ _ _ _⟩
  · go_simp
    refine hK.out _ _ (hHeld.alloc hHeld.size _) (fun hHeld => ?_)
    clear hK K
    try simp only [Act.put, List.setIfInBounds_toArray, List.set_cons_zero, List.set_cons_succ]
    refine wpAnyH_ready (rs := [3, 10, 19]) (by kernel_rfl) (by simp) ?_
    refine AllReadyH.cons rfl (fun K hK => ?_) (AllReadyH.cons rfl (fun K hK => ?_) (AllReadyH.cons rfl (fun K hK => ?_) AllReadyH.nil))
    · go_simp
      refine hK.out _ _ (hHeld.alloc hHeld.size _) (fun hHeld => ?_)
      clear hK K
      try simp only [Act.put, List.setIfInBounds_toArray, List.set_cons_zero, List.set_cons_succ]
      refine wpAnyH_ready (rs := [10, 19]) (by kernel_rfl) (by simp) ?_
      refine AllReadyH.cons rfl (fun K hK => ?_) (AllReadyH.cons rfl (fun K hK => ?_) AllReadyH.nil)
      · go_simp
        refine hK.out _ _ (hHeld.alloc hHeld.size _) (fun hHeld => ?_)
        clear hK K
        try simp only [Act.put, List.setIfInBounds_toArray, List.set_cons_zero, List.set_cons_succ]
        refine wpAnyH_take (i := 18) (v := .agg #[.slice (some ⟨W.heap.size + 1, 0, none⟩) 0 M, .slice (some ⟨W.heap.size + 1 + 1, 0, none⟩) (nX + 1) (nX + 1), .slice none 0 0, .slice (some ⟨W.heap.size, 0, none⟩) (nX + 1) (nX + 1), .slice none 0 0, .slice none 0 0]) rfl (by kernel_rfl) (by kernel_rfl) (by kernel_rfl) (fun _ _ _ h => h) (Or.inl ⟨by rfl, fun w hSw => by go_simp⟩) hHeld ?_
        try simp only [Act.put, List.setIfInBounds_toArray, List.set_cons_zero, List.set_cons_succ]
        refine wpAnyH_ready (rs := [19]) (by kernel_rfl) (by simp) ?_
        refine AllReadyH.cons rfl (fun K hK => ?_) AllReadyH.nil
        · go_simp
          refine hK.out _ _ (hHeld.alloc hHeld.size _) (fun hHeld => ?_)
          clear hK K
          try simp only [Act.put, List.setIfInBounds_toArray, List.set_cons_zero, List.set_cons_succ]
          refine wpAnyH_ready (rs := [20]) (by kernel_rfl) (by simp) ?_
          refine AllReadyH.cons rfl (fun K hK => ?_) AllReadyH.nil
          go_simp
          refine hK.out _ _ (four_below W _ _ _ _) (fun hHeld => ?_)
          clear hK K
          try simp only [Act.put, List.setIfInBounds_toArray, List.set_cons_zero, List.set_cons_succ]
          refine wpAnyH_done (by kernel_rfl) ?_ _
          refine NoPanic.normal ?_
          exact hK (W.heap.size + 1 + 1 + 1) (W.heap.size + 1) (W.heap.size + 1 + 1) (W.heap.size) _ ⟨four3 W _ _ _ _ _, four1 W _ _ _ _ _, four2 W _ _ _ _ _, four0 W _ _ _ _ _, by omega, by omega, by omega, by omega, by omega, four_below W _ _ _ _⟩
      · go_simp
        refine hK.out _ _ (hHeld.alloc hHeld.size _) (fun hHeld => ?_)
        clear hK K
        try simp only [Act.put, List.setIfInBounds_toArray, List.set_cons_zero, List.set_cons_succ]
        refine wpAnyH_ready (rs := [10]) (by kernel_rfl) (by simp) ?_
        refine AllReadyH.cons rfl (fun K hK => ?_) AllReadyH.nil
        · go_simp
          refine hK.out _ _ (hHeld.alloc hHeld.size _) (fun hHeld => ?_)
          clear hK K
          try simp only [Act.put, List.setIfInBounds_toArray, List.set_cons_zero, List.set_cons_succ]
          refine wpAnyH_take (i := 18) (v := .agg #[.slice (some ⟨W.heap.size + 1, 0, none⟩) 0 M, .slice (some ⟨W.heap.size + 1 + 1 + 1, 0, none⟩) (nX + 1) (nX + 1), .slice none 0 0, .slice (some ⟨W.heap.size, 0, none⟩) (nX + 1) (nX + 1), .slice none 0 0, .slice none 0 0]) rfl (by kernel_rfl) (by kernel_rfl) (by kernel_rfl) (fun _ _ _ h => h) (Or.inl ⟨by rfl, fun w hSw => by go_simp⟩) hHeld ?_
          try simp only [Act.put, List.setIfInBounds_toArray, List.set_cons_zero, List.set_cons_succ]
          refine wpAnyH_ready (rs := [20]) (by kernel_rfl) (by simp) ?_
          refine AllReadyH.cons rfl (fun K hK => ?_) AllReadyH.nil
          go_simp
          refine hK.out _ _ (four_below W _ _ _ _) (fun hHeld => ?_)
          clear hK K
          try simp only [Act.put, List.setIfInBounds_toArray, List.set_cons_zero, List.set_cons_succ]
          refine wpAnyH_done (by kernel_rfl) ?_ _
          refine NoPanic.normal ?_
          exact hK (W.heap.size + 1 + 1) (W.heap.size + 1) (W.heap.size + 1 + 1 + 1) (W.heap.size) _ ⟨four2 W _ _ _ _ _, four1 W _ _ _ _ _, four3 W _ _ _ _ _, four0 W _ _ _ _ _, by omega, by omega, by omega, by omega, by omega, four_below W _ _ _ _⟩
    · go_simp
      refine hK.out _ _ (hHeld.alloc hHeld.size _) (fun hHeld => ?_)
      clear hK K
      try simp only [Act.put, List.setIfInBounds_toArray, List.set_cons_zero, List.set_cons_succ]
      refine wpAnyH_ready (rs := [3, 19]) (by kernel_rfl) (by simp) ?_
      refine AllReadyH.cons rfl (fun K hK => ?_) (AllReadyH.cons rfl (fun K hK => ?_) AllReadyH.nil)
      · go_simp
        refine hK.out _ _ (hHeld.alloc hHeld.size _) (fun hHeld => ?_)
        clear hK K
        try simp only [Act.put, List.setIfInBounds_toArray, List.set_cons_zero, List.set_cons_succ]
        refine wpAnyH_take (i := 18) (v := .agg #[.slice (some ⟨W.heap.size + 1 + 1, 0, none⟩) 0 M, .slice (some ⟨W.heap.size + 1, 0, none⟩) (nX + 1) (nX + 1), .slice none 0 0, .slice (some ⟨W.heap.size, 0, none⟩) (nX + 1) (nX + 1), .slice none 0 0, .slice none 0 0]) rfl (by kernel_rfl) (by kernel_rfl) (by kernel_rfl) (fun _ _ _ h => h) (Or.inl ⟨by rfl, fun w hSw => by go_simp⟩) hHeld ?_
        try simp only [Act.put, List.setIfInBounds_toArray, List.set_cons_zero, List.set_cons_succ]
        refine wpAnyH_ready (rs := [19]) (by kernel_rfl) (by simp) ?_
        refine AllReadyH.cons rfl (fun K hK => ?_) AllReadyH.nil
        · go_simp
          refine hK.out _ _ (hHeld.alloc hHeld.size _) (fun hHeld => ?_)
          clear hK K
          try simp only [Act.put, List.setIfInBounds_toArray, List.set_cons_zero, List.set_cons_succ]
          refine wpAnyH_ready (rs := [20]) (by kernel_rfl) (by simp) ?_
          refine AllReadyH.cons rfl (fun K hK => ?_) AllReadyH.nil
          go_simp
          refine hK.out _ _ (four_below W _ _ _ _) (fun hHeld => ?_)
          clear hK K
          try simp only [Act.put, List.setIfInBounds_toArray, List.set_cons_zero, List.set_cons_succ]
          refine wpAnyH_done (by kernel_rfl) ?_ _
          refine NoPanic.normal ?_
          exact hK (W.heap.size + 1 + 1 + 1) (W.heap.size + 1 + 1) (W.heap.size + 1) (W.heap.size) _ ⟨four3 W _ _ _ _ _, four2 W _ _ _ _ _, four1 W _ _ _ _ _, four0 W _ _ _ _ _, by omega, by omega, by omega, by omega, by omega, four_below W _ _ _ _⟩
      · go_simp
        refine hK.out _ _ (hHeld.alloc hHeld.size _) (fun hHeld => ?_)
        clear hK K
        try simp only [Act.put, List.setIfInBounds_toArray, List.set_cons_zero, List.set_cons_succ]
        refine wpAnyH_ready (rs := [3]) (by kernel_rfl) (by simp) ?_
        refine AllReadyH.cons rfl (fun K hK => ?_) AllReadyH.nil
        · go_simp
          refine hK.out _ _ (hHeld.alloc hHeld.size _) (fun hHeld => ?_)
          clear hK K
          try simp only [Act.put, List.setIfInBounds_toArray, List.set_cons_zero, List.set_cons_succ]
          refine wpAnyH_take (i := 18) (v := .agg #[.slice (some ⟨W.heap.size + 1 + 1 + 1, 0, none⟩) 0 M, .slice (some ⟨W.heap.size + 1, 0, none⟩) (nX + 1) (nX + 1), .slice none 0 0, .slice (some ⟨W.heap.size, 0, none⟩) (nX + 1) (nX + 1), .slice none 0 0, .slice none 0 0]) rfl (by kernel_rfl) (by kernel_rfl) (by kernel_rfl) (fun _ _ _ h => h) (Or.inl ⟨by rfl, fun w hSw => by go_simp⟩) hHeld ?_
          try simp only [Act.put, List.setIfInBounds_toArray, List.set_cons_zero, List.set_cons_succ]
          refine wpAnyH_ready (rs := [20]) (by kernel_rfl) (by simp) ?_
          refine AllReadyH.cons rfl (fun K hK => ?_) AllReadyH.nil
          go_simp
          refine hK.out _ _ (four_below W _ _ _ _) (fun hHeld => ?_)
          clear hK K
          try simp only [Act.put, List.setIfInBounds_toArray, List.set_cons_zero, List.set_cons_succ]
          refine wpAnyH_done (by kernel_rfl) ?_ _
          refine NoPanic.normal ?_
          exact hK (W.heap.size + 1 + 1) (W.heap.size + 1 + 1 + 1) (W.heap.size + 1) (W.heap.size) _ ⟨four2 W _ _ _ _ _, four3 W _ _ _ _ _, four1 W _ _ _ _ _, four0 W _ _ _ _ _, by omega, by omega, by omega, by omega, by omega, four_below W _ _ _ _⟩
    · go_simp
      refine hK.out _ _ (hHeld.alloc hHeld.size _) (fun hHeld => ?_)
      clear hK K
      try simp only [Act.put, List.setIfInBounds_toArray, List.set_cons_zero, List.set_cons_succ]
      refine wpAnyH_ready (rs := [3, 10]) (by kernel_rfl) (by simp) ?_
      refine AllReadyH.cons rfl (fun K hK => ?_) (AllReadyH.cons rfl (fun K hK => ?_) AllReadyH.nil)
      · go_simp
        refine hK.out _ _ (hHeld.alloc hHeld.size _) (fun hHeld => ?_)
        clear hK K
        try simp only [Act.put, List.setIfInBounds_toArray, List.set_cons_zero, List.set_cons_succ]
        refine wpAnyH_ready (rs := [10]) (by kernel_rfl) (by simp) ?_
        refine AllReadyH.cons rfl (fun K hK => ?_) AllReadyH.nil
        · go_simp
          refine hK.out _ _ (hHeld.alloc hHeld.size _) (fun hHeld => ?_)
          clear hK K
          try simp only [Act.put, List.setIfInBounds_toArray, List.set_cons_zero, List.set_cons_succ]
          refine wpAnyH_take (i := 18) (v := .agg #[.slice (some ⟨W.heap.size + 1 + 1, 0, none⟩) 0 M, .slice (some ⟨W.heap.size + 1 + 1 + 1, 0, none⟩) (nX + 1) (nX + 1), .slice none 0 0, .slice (some ⟨W.heap.size, 0, none⟩) (nX + 1) (nX + 1), .slice none 0 0, .slice none 0 0]) rfl (by kernel_rfl) (by kernel_rfl) (by kernel_rfl) (fun _ _ _ h => h) (Or.inl ⟨by rfl, fun w hSw => by go_simp⟩) hHeld ?_
          try simp only [Act.put, List.setIfInBounds_toArray, List.set_cons_zero, List.set_cons_succ]
          refine wpAnyH_ready (rs := [20]) (by kernel_rfl) (by simp) ?_
          refine AllReadyH.cons rfl (fun K hK => ?_) AllReadyH.nil
          go_simp
          refine hK.out _ _ (four_below W _ _ _ _) (fun hHeld => ?_)
          clear hK K
          try simp only [Act.put, List.setIfInBounds_toArray, List.set_cons_zero, List.set_cons_succ]
          refine wpAnyH_done (by kernel_rfl) ?_ _
          refine NoPanic.normal ?_
          exact hK (W.heap.size + 1) (W.heap.size + 1 + 1) (W.heap.size + 1 + 1 + 1) (W.heap.size) _ ⟨four1 W _ _ _ _ _, four2 W _ _ _ _ _, four3 W _ _ _ _ _, four0 W _ _ _ _ _, by omega, by omega, by omega, by omega, by omega, four_below W _ _ _ _⟩
      · go_simp
        refine hK.out _ _ (hHeld.alloc hHeld.size _) (fun hHeld => ?_)
        clear hK K
        try simp only [Act.put, List.setIfInBounds_toArray, List.set_cons_zero, List.set_cons_succ]
        refine wpAnyH_ready (rs := [3]) (by kernel_rfl) (by simp) ?_
        refine AllReadyH.cons rfl (fun K hK => ?_) AllReadyH.nil
        · go_simp
          refine hK.out _ _ (hHeld.alloc hHeld.size _) (fun hHeld => ?_)
          clear hK K
          try simp only [Act.put, List.setIfInBounds_toArray, List.set_cons_zero, List.set_cons_succ]
          refine wpAnyH_take (i := 18) (v := .agg #[.slice (some ⟨W.heap.size + 1 + 1 + 1, 0, none⟩) 0 M, .slice (some ⟨W.heap.size + 1 + 1, 0, none⟩) (nX + 1) (nX + 1), .slice none 0 0, .slice (some ⟨W.heap.size, 0, none⟩) (nX + 1) (nX + 1), .slice none 0 0, .slice none 0 0]) rfl (by kernel_rfl) (by kernel_rfl) (by kernel_rfl) (fun _ _ _ h => h) (Or.inl ⟨by rfl, fun w hSw => by go_simp⟩) hHeld ?_
          try simp only [Act.put, List.setIfInBounds_toArray, List.set_cons_zero, List.set_cons_succ]
          refine wpAnyH_ready (rs := [20]) (by kernel_rfl) (by simp) ?_
          refine AllReadyH.cons rfl (fun K hK => ?_) AllReadyH.nil
          go_simp
          refine hK.out _ _ (four_below W _ _ _ _) (fun hHeld => ?_)
          clear hK K
          try simp only [Act.put, List.setIfInBounds_toArray, List.set_cons_zero, List.set_cons_succ]
          refine wpAnyH_done (by kernel_rfl) ?_ _
          refine NoPanic.normal ?_
          exact hK (W.heap.size + 1) (W.heap.size + 1 + 1 + 1) (W.heap.size + 1 + 1) (W.heap.size) _ ⟨four1 W _ _ _ _ _, four3 W _ _ _ _ _, four2 W _ _ _ _ _, four0 W _ _ _ _ _, by omega, by omega, by omega, by omega, by omega, four_below W _ _ _ _⟩
  · go_simp
    refine hK.out _ _ (hHeld.alloc hHeld.size _) (fun hHeld => ?_)
    clear hK K
    try simp only [Act.put, List.setIfInBounds_toArray, List.set_cons_zero, List.set_cons_succ]
    refine wpAnyH_ready (rs := [3, 10, 17]) (by kernel_rfl) (by simp) ?_
    refine AllReadyH.cons rfl (fun K hK => ?_) (AllReadyH.cons rfl (fun K hK => ?_) (AllReadyH.cons rfl (fun K hK => ?_) AllReadyH.nil))
    · go_simp
      refine hK.out _ _ (hHeld.alloc hHeld.size _) (fun hHeld => ?_)
      clear hK K
      try simp only [Act.put, List.setIfInBounds_toArray, List.set_cons_zero, List.set_cons_succ]
      refine wpAnyH_ready (rs := [10, 17]) (by kernel_rfl) (by simp) ?_
      refine AllReadyH.cons rfl (fun K hK => ?_) (AllReadyH.cons rfl (fun K hK => ?_) AllReadyH.nil)
      · go_simp
        refine hK.out _ _ (hHeld.alloc hHeld.size _) (fun hHeld => ?_)
        clear hK K
        try simp only [Act.put, List.setIfInBounds_toArray, List.set_cons_zero, List.set_cons_succ]
        refine wpAnyH_ready (rs := [17]) (by kernel_rfl) (by simp) ?_
        refine AllReadyH.cons rfl (fun K hK => ?_) AllReadyH.nil
        · go_simp
          refine hK.out _ _ (hHeld.alloc hHeld.size _) (fun hHeld => ?_)
          clear hK K
          try simp only [Act.put, List.setIfInBounds_toArray, List.set_cons_zero, List.set_cons_succ]
          refine wpAnyH_take (i := 18) (v := .agg #[.slice (some ⟨W.heap.size + 1, 0, none⟩) 0 M, .slice (some ⟨W.heap.size + 1 + 1, 0, none⟩) (nX + 1) (nX + 1), .slice none 0 0, .slice (some ⟨W.heap.size + 1 + 1 + 1, 0, none⟩) (nX + 1) (nX + 1), .slice none 0 0, .slice none 0 0]) rfl (by kernel_rfl) (by kernel_rfl) (by kernel_rfl) (fun _ _ _ h => h) (Or.inl ⟨by rfl, fun w hSw => by go_simp⟩) hHeld ?_
          try simp only [Act.put, List.setIfInBounds_toArray, List.set_cons_zero, List.set_cons_succ]
          refine wpAnyH_ready (rs := [20]) (by kernel_rfl) (by simp) ?_
          refine AllReadyH.cons rfl (fun K hK => ?_) AllReadyH.nil
          go_simp
          refine hK.out _ _ (four_below W _ _ _ _) (fun hHeld => ?_)
          clear hK K
          try simp only [Act.put, List.setIfInBounds_toArray, List.set_cons_zero, List.set_cons_succ]
          refine wpAnyH_done (by kernel_rfl) ?_ _
          refine NoPanic.normal ?_
          exact hK (W.heap.size) (W.heap.size + 1) (W.heap.size + 1 + 1) (W.heap.size + 1 + 1 + 1) _ ⟨four0 W _ _ _ _ _, four1 W _ _ _ _ _, four2 W _ _ _ _ _, four3 W _ _ _ _ _, by omega, by omega, by omega, by omega, by omega, four_below W _ _ _ _⟩
      · go_simp
        refine hK.out _ _ (hHeld.alloc hHeld.size _) (fun hHeld => ?_)
        clear hK K
        try simp only [Act.put, List.setIfInBounds_toArray, List.set_cons_zero, List.set_cons_succ]
        refine wpAnyH_ready (rs := [10]) (by kernel_rfl) (by simp) ?_
        refine AllReadyH.cons rfl (fun K hK => ?_) AllReadyH.nil
        · go_simp
          refine hK.out _ _ (hHeld.alloc hHeld.size _) (fun hHeld => ?_)
          clear hK K
          try simp only [Act.put, List.setIfInBounds_toArray, List.set_cons_zero, List.set_cons_succ]
          refine wpAnyH_take (i := 18) (v := .agg #[.slice (some ⟨W.heap.size + 1, 0, none⟩) 0 M, .slice (some ⟨W.heap.size + 1 + 1 + 1, 0, none⟩) (nX + 1) (nX + 1), .slice none 0 0, .slice (some ⟨W.heap.size + 1 + 1, 0, none⟩) (nX + 1) (nX + 1), .slice none 0 0, .slice none 0 0]) rfl (by kernel_rfl) (by kernel_rfl) (by kernel_rfl) (fun _ _ _ h => h) (Or.inl ⟨by rfl, fun w hSw => by go_simp⟩) hHeld ?_
          try simp only [Act.put, List.setIfInBounds_toArray, List.set_cons_zero, List.set_cons_succ]
          refine wpAnyH_ready (rs := [20]) (by kernel_rfl) (by simp) ?_
          refine AllReadyH.cons rfl (fun K hK => ?_) AllReadyH.nil
          go_simp
          refine hK.out _ _ (four_below W _ _ _ _) (fun hHeld => ?_)
          clear hK K
          try simp only [Act.put, List.setIfInBounds_toArray, List.set_cons_zero, List.set_cons_succ]
          refine wpAnyH_done (by kernel_rfl) ?_ _
          refine NoPanic.normal ?_
          exact hK (W.heap.size) (W.heap.size + 1) (W.heap.size + 1 + 1 + 1) (W.heap.size + 1 + 1) _ ⟨four0 W _ _ _ _ _, four1 W _ _ _ _ _, four3 W _ _ _ _ _, four2 W _ _ _ _ _, by omega, by omega, by omega, by omega, by omega, four_below W _ _ _ _⟩
    · go_simp
      refine hK.out _ _ (hHeld.alloc hHeld.size _) (fun hHeld => ?_)
      clear hK K
      try simp only [Act.put, List.setIfInBounds_toArray, List.set_cons_zero, List.set_cons_succ]
      refine wpAnyH_ready (rs := [3, 17]) (by kernel_rfl) (by simp) ?_
      refine AllReadyH.cons rfl (fun K hK => ?_) (AllReadyH.cons rfl (fun K hK => ?_) AllReadyH.nil)
      · go_simp
        refine hK.out _ _ (hHeld.alloc hHeld.size _) (fun hHeld => ?_)
        clear hK K
        try simp only [Act.put, List.setIfInBounds_toArray, List.set_cons_zero, List.set_cons_succ]
        refine wpAnyH_ready (rs := [17]) (by kernel_rfl) (by simp) ?_
        refine AllReadyH.cons rfl (fun K hK => ?_) AllReadyH.nil
        · go_simp
          refine hK.out _ _ (hHeld.alloc hHeld.size _) (fun hHeld => ?_)
          clear hK K
          try simp only [Act.put, List.setIfInBounds_toArray, List.set_cons_zero, List.set_cons_succ]
          refine wpAnyH_take (i := 18) (v := .agg #[.slice (some ⟨W.heap.size + 1 + 1, 0, none⟩) 0 M, .slice (some ⟨W.heap.size + 1, 0, none⟩) (nX + 1) (nX + 1), .slice none 0 0, .slice (some ⟨W.heap.size + 1 + 1 + 1, 0, none⟩) (nX + 1) (nX + 1), .slice none 0 0, .slice none 0 0]) rfl (by kernel_rfl) (by kernel_rfl) (by kernel_rfl) (fun _ _ _ h => h) (Or.inl ⟨by rfl, fun w hSw => by go_simp⟩) hHeld ?_
          try simp only [Act.put, List.setIfInBounds_toArray, List.set_cons_zero, List.set_cons_succ]
          refine wpAnyH_ready (rs := [20]) (by kernel_rfl) (by simp) ?_
          refine AllReadyH.cons rfl (fun K hK => ?_) AllReadyH.nil
          go_simp
          refine hK.out _ _ (four_below W _ _ _ _) (fun hHeld => ?_)
          clear hK K
          try simp only [Act.put, List.setIfInBounds_toArray, List.set_cons_zero, List.set_cons_succ]
          refine wpAnyH_done (by kernel_rfl) ?_ _
          refine NoPanic.normal ?_
          exact hK (W.heap.size) (W.heap.size + 1 + 1) (W.heap.size + 1) (W.heap.size + 1 + 1 + 1) _ ⟨four0 W _ _ _ _ _, four2 W _ _ _ _ _, four1 W _ _ _ _ _, four3 W _ _ _ _ _, by omega, by omega, by omega, by omega, by omega, four_below W _ _ _ _⟩
      · go_simp
        refine hK.out _ _ (hHeld.alloc hHeld.size _) (fun hHeld => ?_)
        clear hK K
        try simp only [Act.put, List.setIfInBounds_toArray, List.set_cons_zero, List.set_cons_succ]
        refine wpAnyH_ready (rs := [3]) (by kernel_rfl) (by simp) ?_
        refine AllReadyH.cons rfl (fun K hK => ?_) AllReadyH.nil
        · go_simp
          refine hK.out _ _ (hHeld.alloc hHeld.size _) (fun hHeld => ?_)
          clear hK K
          try simp only [Act.put, List.setIfInBounds_toArray, List.set_cons_zero, List.set_cons_succ]
          refine wpAnyH_take (i := 18) (v := .agg #[.slice (some ⟨W.heap.size + 1 + 1 + 1, 0, none⟩) 0 M, .slice (some ⟨W.heap.size + 1, 0, none⟩) (nX + 1) (nX + 1), .slice none 0 0, .slice (some ⟨W.heap.size + 1 + 1, 0, none⟩) (nX + 1) (nX + 1), .slice none 0 0, .slice none 0 0]) rfl (by kernel_rfl) (by kernel_rfl) (by kernel_rfl) (fun _ _ _ h => h) (Or.inl ⟨by rfl, fun w hSw => by go_simp⟩) hHeld ?_
          try simp only [Act.put, List.setIfInBounds_toArray, List.set_cons_zero, List.set_cons_succ]
          refine wpAnyH_ready (rs := [20]) (by kernel_rfl) (by simp) ?_
          refine AllReadyH.cons rfl (fun K hK => ?_) AllReadyH.nil
          go_simp
          refine hK.out _ _ (four_below W _ _ _ _) (fun hHeld => ?_)
          clear hK K
          try simp only [Act.put, List.setIfInBounds_toArray, List.set_cons_zero, List.set_cons_succ]
          refine wpAnyH_done (by kernel_rfl) ?_ _
          refine NoPanic.normal ?_
          exact hK (W.heap.size) (W.heap.size + 1 + 1 + 1) (W.heap.size + 1) (W.heap.size + 1 + 1) _ ⟨four0 W _ _ _ _ _, four3 W _ _ _ _ _, four1 W _ _ _ _ _, four2 W _ _ _ _ _, by omega, by omega, by omega, by omega, by omega, four_below W _ _ _ _⟩
    · go_simp
      refine hK.out _ _ (hHeld.alloc hHeld.size _) (fun hHeld => ?_)
      clear hK K
      try simp only [Act.put, List.setIfInBounds_toArray, List.set_cons_zero, List.set_cons_succ]
      refine wpAnyH_ready (rs := [3, 10]) (by kernel_rfl) (by simp) ?_
      refine AllReadyH.cons rfl (fun K hK => ?_) (AllReadyH.cons rfl (fun K hK => ?_) AllReadyH.nil)
      · go_simp
        refine hK.out _ _ (hHeld.alloc hHeld.size _) (fun hHeld => ?_)
        clear hK K
        try simp only [Act.put, List.setIfInBounds_toArray, List.set_cons_zero, List.set_cons_succ]
        refine wpAnyH_ready (rs := [10]) (by kernel_rfl) (by simp) ?_
        refine AllReadyH.cons rfl (fun K hK => ?_) AllReadyH.nil
        · go_simp
          refine hK.out _ _ (hHeld.alloc hHeld.size _) (fun hHeld => ?_)
          clear hK K
          try simp only [Act.put, List.setIfInBounds_toArray, List.set_cons_zero, List.set_cons_succ]
          refine wpAnyH_take (i := 18) (v := .agg #[.slice (some ⟨W.heap.size + 1 + 1, 0, none⟩) 0 M, .slice (some ⟨W.heap.size + 1 + 1 + 1, 0, none⟩) (nX + 1) (nX + 1), .slice none 0 0, .slice (some ⟨W.heap.size + 1, 0, none⟩) (nX + 1) (nX + 1), .slice none 0 0, .slice none 0 0]) rfl (by kernel_rfl) (by kernel_rfl) (by kernel_rfl) (fun _ _ _ h => h) (Or.inl ⟨by rfl, fun w hSw => by go_simp⟩) hHeld ?_
          try simp only [Act.put, List.setIfInBounds_toArray, List.set_cons_zero, List.set_cons_succ]
          refine wpAnyH_ready (rs := [20]) (by kernel_rfl) (by simp) ?_
          refine AllReadyH.cons rfl (fun K hK => ?_) AllReadyH.nil
          go_simp
          refine hK.out _ _ (four_below W _ _ _ _) (fun hHeld => ?_)
          clear hK K
          try simp only [Act.put, List.setIfInBounds_toArray, List.set_cons_zero, List.set_cons_succ]
          refine wpAnyH_done (by kernel_rfl) ?_ _
          refine NoPanic.normal ?_
          exact hK (W.heap.size) (W.heap.size + 1 + 1) (W.heap.size + 1 + 1 + 1) (W.heap.size + 1) _ ⟨four0 W _ _ _ _ _, four2 W _ _ _ _ _, four3 W _ _ _ _ _, four1 W _ _ _ _ _, by omega, by omega, by omega, by omega, by omega, four_below W _ _ _ _⟩
      · go_simp
        refine hK.out _ _ (hHeld.alloc hHeld.size _) (fun hHeld => ?_)
        clear hK K
        try simp only [Act.put, List.setIfInBounds_toArray, List.set_cons_zero, List.set_cons_succ]
        refine wpAnyH_ready (rs := [3]) (by kernel_rfl) (by simp) ?_
        refine AllReadyH.cons rfl (fun K hK => ?_) AllReadyH.nil
        · go_simp
          refine hK.out _ _ (hHeld.alloc hHeld.size _) (fun hHeld => ?_)
          clear hK K
          try simp only [Act.put, List.setIfInBounds_toArray, List.set_cons_zero, List.set_cons_succ]
          refine wpAnyH_take (i := 18) (v := .agg #[.slice (some ⟨W.heap.size + 1 + 1 + 1, 0, none⟩) 0 M, .slice (some ⟨W.heap.size + 1 + 1, 0, none⟩) (nX + 1) (nX + 1), .slice none 0 0, .slice (some ⟨W.heap.size + 1, 0, none⟩) (nX + 1) (nX + 1), .slice none 0 0, .slice none 0 0]) rfl (by kernel_rfl) (by kernel_rfl) (by kernel_rfl) (fun _ _ _ h => h) (Or.inl ⟨by rfl, fun w hSw => by go_simp⟩) hHeld ?_
          try simp only [Act.put, List.setIfInBounds_toArray, List.set_cons_zero, List.set_cons_succ]
          refine wpAnyH_ready (rs := [20]) (by kernel_rfl) (by simp) ?_
          refine AllReadyH.cons rfl (fun K hK => ?_) AllReadyH.nil
          go_simp
          refine hK.out _ _ (four_below W _ _ _ _) (fun hHeld => ?_)
          clear hK K
          try simp only [Act.put, List.setIfInBounds_toArray, List.set_cons_zero, List.set_cons_succ]
          refine wpAnyH_done (by kernel_rfl) ?_ _
          refine NoPanic.normal ?_
          exact hK (W.heap.size) (W.heap.size + 1 + 1 + 1) (W.heap.size + 1 + 1) (W.heap.size + 1) _ ⟨four0 W _ _ _ _ _, four3 W _ _ _ _ _, four2 W _ _ _ _ _, four1 W _ _ _ _ _, by omega, by omega, by omega, by omega, by omega, four_below W _ _ _ _⟩
end Go.Proofs.Ybulkri.A
