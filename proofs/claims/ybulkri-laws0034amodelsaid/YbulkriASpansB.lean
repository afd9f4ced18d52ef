/-
  LawS0034AModel: (*Schedule).spans: its two appends.
-/
import Derived.Test.YbulkriASpansA
namespace Go.Proofs.Ybulkri.A
open Go.RowKit
set_option linter.unusedVariables false
set_option linter.unusedSimpArgs false

set_option maxHeartbeats 8000000 in
set_option maxRecDepth 100000 in
/-- 'tab.spans = append(tab.spans, span{..})' -/
theorem spans_push {W W6 : World} {T g0 g1 g3 gso nX M : Nat} {vw : Value} {Lj : List (Nat × Nat)} {zs l1 l3 so : List Int} {m Bo S go co n t x i : Nat} {kd x0 : Int} (hsc : SpC W.heap.size T g0 g1 g3 gso) (hs6 : SpSt W W.heap.size T g0 g1 g3 gso nX M vw Lj zs l1 l3 so m W6) (hob6 : Blk W6 Bo 34 #[.int .u8 kd, .int .i64 (t : Int), .int .i64 x0])
    (hSl : Hid (S < W.heap.size)) (Hh : Hid (W.cell? ⟨S, 0, none⟩ = some (.slice (some ⟨go, 0, none⟩) n co))) (hLM : Lj.length + 1 ≤ M) (hM : M ≤ 1024) (hn : n ≤ 1024) (hx : x ≤ 1024) (hi : i ≤ 1024) (ht : t ≤ 1024)
    {K : Act → World → Prop} {Q : Exit → Act → World → Prop} {s1 s2 s3 s4 s5 s7 s8 s10 s13 s14 s15 s16 s17 s18 s19 s20 s21 s22 s23 s24 s25 s26 s27 s28 s29 s30 s31 s32 s33 s34 s35 s36 s37 s38 s39 s40 s41 s42 s43 s44 s45 s46 s47 s48 s49 s50 s51 s52 s53 s54 s55 s56 s57 s58 s59 s60 s61 s62 s63 s64 s65 s66 s67 s68 s69 s70 s71 s72 s73 s74 s75 s76 s77 s78 s79 s80 s81 s82 s83 s84 s85 s86 s87 s88 s89 s90 s91 s92 s93 s94 s95 s96 s97 s98 s99 s100 s101 s102 s103 s104 s105 s106 s107 s108 s109 s110 s111 s112 s113 s114 s115 s116 s117 s118 s119 s120 : Value} {rest : List Value}
    (hQ : ∀ (wc : World) (v118 : Value), SpSt W W.heap.size T g0 g1 g3 gso nX M vw (Lj ++ [(t, x)]) (zs ++ [(t : Int), (x : Int), (i : Int), 0, (n : Int), -1]) l1 l3 so m wc → Blk wc Bo 34 #[.int .u8 kd, .int .i64 (t : Int), .int .i64 x0] → K ⟨((.pointer (some ⟨S, 0, none⟩)) :: s1 :: s2 :: s3 :: s4 :: s5 :: (.pointer (some ⟨T, 0, none⟩)) :: s7 :: s8 :: (.int .i64 (x : Int)) :: s10 :: (.int .i64 (i : Int)) :: (.pointer (some ⟨Bo, 0, none⟩)) :: s13 :: s14 :: s15 :: s16 :: s17 :: s18 :: s19 :: s20 :: s21 :: s22 :: s23 :: s24 :: s25 :: s26 :: s27 :: s28 :: s29 :: s30 :: s31 :: s32 :: s33 :: s34 :: s35 :: s36 :: s37 :: s38 :: s39 :: s40 :: s41 :: s42 :: s43 :: s44 :: s45 :: s46 :: s47 :: s48 :: s49 :: s50 :: s51 :: s52 :: s53 :: s54 :: s55 :: s56 :: s57 :: s58 :: s59 :: s60 :: s61 :: s62 :: s63 :: s64 :: s65 :: s66 :: s67 :: s68 :: s69 :: s70 :: s71 :: s72 :: s73 :: s74 :: s75 :: s76 :: s77 :: s78 :: s79 :: s80 :: s81 :: s82 :: s83 :: s84 :: s85 :: s86 :: s87 :: s88 :: s89 :: s90 :: s91 :: s92 :: s93 :: s94 :: s95 :: s96 :: s97 :: s98 :: s99 :: s100 :: s101 :: s102 :: s103 :: s104 :: s105 :: (.pointer (some ⟨T, 0, none⟩)) :: (.slice (some ⟨g0, 0, none⟩) Lj.length M) :: (.pointer (some ⟨Bo, 1, none⟩)) :: (.int .i64 (t : Int)) :: (.int .i64 (x : Int)) :: (.int .i64 (i : Int)) :: (.pointer (some ⟨S, 0, none⟩)) :: (.pointer (some ⟨S, 0, none⟩)) :: (.pointer (some ⟨S, 0, none⟩)) :: (.slice (some ⟨go, 0, none⟩) n co) :: (.int .i64 (n : Int)) :: (.agg #[.int .i64 (t : Int), .int .i64 (x : Int), .int .i64 (i : Int), .int .i64 0, .int .i64 (n : Int), .int .i64 (-1)]) :: (v118) :: (.slice (some ⟨g0, 0, none⟩) (Lj.length + 1) M) :: (.pointer (some ⟨T, 0, none⟩)) :: rest).toArray, []⟩ wc) :
    Code.wp Yba.prog (reg13 20) (Exit.then K Q) ⟨((.pointer (some ⟨S, 0, none⟩)) :: s1 :: s2 :: s3 :: s4 :: s5 :: (.pointer (some ⟨T, 0, none⟩)) :: s7 :: s8 :: (.int .i64 (x : Int)) :: s10 :: (.int .i64 (i : Int)) :: (.pointer (some ⟨Bo, 0, none⟩)) :: s13 :: s14 :: s15 :: s16 :: s17 :: s18 :: s19 :: s20 :: s21 :: s22 :: s23 :: s24 :: s25 :: s26 :: s27 :: s28 :: s29 :: s30 :: s31 :: s32 :: s33 :: s34 :: s35 :: s36 :: s37 :: s38 :: s39 :: s40 :: s41 :: s42 :: s43 :: s44 :: s45 :: s46 :: s47 :: s48 :: s49 :: s50 :: s51 :: s52 :: s53 :: s54 :: s55 :: s56 :: s57 :: s58 :: s59 :: s60 :: s61 :: s62 :: s63 :: s64 :: s65 :: s66 :: s67 :: s68 :: s69 :: s70 :: s71 :: s72 :: s73 :: s74 :: s75 :: s76 :: s77 :: s78 :: s79 :: s80 :: s81 :: s82 :: s83 :: s84 :: s85 :: s86 :: s87 :: s88 :: s89 :: s90 :: s91 :: s92 :: s93 :: s94 :: s95 :: s96 :: s97 :: s98 :: s99 :: s100 :: s101 :: s102 :: s103 :: s104 :: s105 :: s106 :: s107 :: s108 :: s109 :: s110 :: s111 :: s112 :: s113 :: s114 :: s115 :: s116 :: s117 :: s118 :: s119 :: s120 :: rest).toArray, []⟩ W6 := by
  obtain ⟨i63, hi63, hi63z, hi63s, hi63b⟩ := info_parts info63
  conv => arg 2; whnf
  have co1' : W6.cell? ⟨Bo, 1, none⟩ = some (.int .i64 (t : Int)) := hob6.cellOf (j := 1) rfl
  have cS0' : W6.cell? ⟨S, 0, none⟩ = some (.slice (some ⟨go, 0, none⟩) n co) := (hs6.b.cell (p := ⟨S, 0, none⟩) hSl.out).trans Hh.out
  have cT06 : W6.cell? ⟨T, 0, none⟩ = some (.slice (some ⟨g0, 0, none⟩) Lj.length M) := hs6.t.cellOf (j := 0) rfl
  have cT06' : ∀ o, (W6.alloc o).cell? ⟨T, 0, none⟩ = some (.slice (some ⟨g0, 0, none⟩) Lj.length M) := fun o => (hs6.alloc hsc o).t.cellOf (j := 0) rfl
  have hBg0 : Bo ≠ g0 := by obtain ⟨cur, hg0b, _⟩ := own_blk hs6.sp (k := g0) rfl; exact hob6.ne hg0b (by decide)
  have hBT : Bo ≠ T := hob6.ne hs6.t (by decide)
  refine wp_region_noPanic ?_
  refine wp_region_held_drew (S := fun w' => w'.cell? ⟨Bo, 1, none⟩ = some (.int .i64 (t : Int)) ∧ w'.cell? ⟨S, 0, none⟩ = some (.slice (some ⟨go, 0, none⟩) n co)) (by kernel_rfl) ⟨co1', cS0'⟩ (fun hHeld => ?_)
  refine wpAnyH_take (i := 0) (v := .pointer (some ⟨T, 0, none⟩)) rfl (by kernel_rfl) (by kernel_rfl) (by kernel_rfl) (fun _ _ _ h => h) (Or.inl ⟨by rfl, fun w hSw => by go_simp⟩) hHeld ?_
  try simp only [Act.put, List.setIfInBounds_toArray, List.set_cons_zero, List.set_cons_succ]
  refine wpAnyH_take (i := 2) (v := .pointer (some ⟨Bo, 1, none⟩)) rfl (by kernel_rfl) (by kernel_rfl) (by kernel_rfl) (fun _ _ _ h => h) (Or.inl ⟨by rfl, fun w hSw => by go_simp⟩) hHeld ?_
  try simp only [Act.put, List.setIfInBounds_toArray, List.set_cons_zero, List.set_cons_succ]
  refine wpAnyH_take (i := 3) (v := .int .i64 (t : Int)) rfl (by kernel_rfl) (by kernel_rfl) (by kernel_rfl) (fun _ _ _ h => h) (Or.inl ⟨by rfl, fun w hSw => by go_simp⟩) hHeld ?_
  try simp only [Act.put, List.setIfInBounds_toArray, List.set_cons_zero, List.set_cons_succ]
  refine wpAnyH_take (i := 4) (v := .int .i64 (x : Int)) rfl (by kernel_rfl) (by kernel_rfl) (by kernel_rfl) (fun _ _ _ h => h) (Or.inl ⟨by rfl, fun w hSw => by go_simp⟩) hHeld ?_
  try simp only [Act.put, List.setIfInBounds_toArray, List.set_cons_zero, List.set_cons_succ]
  refine wpAnyH_take (i := 5) (v := .int .i64 (i : Int)) rfl (by kernel_rfl) (by kernel_rfl) (by kernel_rfl) (fun _ _ _ h => h) (Or.inl ⟨by rfl, fun w hSw => by go_simp⟩) hHeld ?_
  try simp only [Act.put, List.setIfInBounds_toArray, List.set_cons_zero, List.set_cons_succ]
  refine wpAnyH_take (i := 6) (v := .pointer (some ⟨S, 0, none⟩)) rfl (by kernel_rfl) (by kernel_rfl) (by kernel_rfl) (fun _ _ _ h => h) (Or.inl ⟨by rfl, fun w hSw => by go_simp⟩) hHeld ?_
  try simp only [Act.put, List.setIfInBounds_toArray, List.set_cons_zero, List.set_cons_succ]
  refine wpAnyH_take (i := 7) (v := .pointer (some ⟨S, 0, none⟩)) rfl (by kernel_rfl) (by kernel_rfl) (by kernel_rfl) (fun _ _ _ h => h) (Or.inl ⟨by rfl, fun w hSw => by go_simp⟩) hHeld ?_
  try simp only [Act.put, List.setIfInBounds_toArray, List.set_cons_zero, List.set_cons_succ]
  refine wpAnyH_take (i := 8) (v := .pointer (some ⟨S, 0, none⟩)) rfl (by kernel_rfl) (by kernel_rfl) (by kernel_rfl) (fun _ _ _ h => h) (Or.inl ⟨by rfl, fun w hSw => by go_simp⟩) hHeld ?_
  try simp only [Act.put, List.setIfInBounds_toArray, List.set_cons_zero, List.set_cons_succ]
  refine wpAnyH_take (i := 9) (v := .slice (some ⟨go, 0, none⟩) n co) rfl (by kernel_rfl) (by kernel_rfl) (by kernel_rfl) (fun _ _ _ h => h) (Or.inl ⟨by rfl, fun w hSw => by go_simp⟩) hHeld ?_
  try simp only [Act.put, List.setIfInBounds_toArray, List.set_cons_zero, List.set_cons_succ]
  refine wpAnyH_take (i := 10) (v := .int .i64 (n : Int)) rfl (by kernel_rfl) (by kernel_rfl) (by kernel_rfl) (fun _ _ _ h => h) (Or.inl ⟨by rfl, fun w hSw => by go_simp⟩) hHeld ?_
  try simp only [Act.put, List.setIfInBounds_toArray, List.set_cons_zero, List.set_cons_succ]
  refine wpAnyH_take (i := 11) (v := .agg #[.int .i64 (t : Int), .int .i64 (x : Int), .int .i64 (i : Int), .int .i64 0, .int .i64 (n : Int), .int .i64 (-1)]) rfl (by kernel_rfl) (by kernel_rfl) (by kernel_rfl) (fun _ _ _ h => h) (Or.inl ⟨by rfl, fun w hSw => by go_simp⟩) hHeld ?_
  try simp only [Act.put, List.setIfInBounds_toArray, List.set_cons_zero, List.set_cons_succ]
  refine wpAnyH_ready (rs := [1, 12]) (by kernel_rfl) (by simp) ?_
  refine AllReadyH.cons rfl (fun K hK => ?_) (AllReadyH.cons rfl (fun K hK => ?_) AllReadyH.nil)
  · go_simp
    refine hK.out _ _ (hHeld) (fun hHeld => ?_)
    clear hK K
    try simp only [Act.put, List.setIfInBounds_toArray, List.set_cons_zero, List.set_cons_succ]
    refine wpAnyH_ready (rs := [12]) (by kernel_rfl) (by simp) ?_
    refine AllReadyH.cons rfl (fun K hK => ?_) AllReadyH.nil
    go_simp
    refine hK.out _ _ (⟨(Blk.drew (hob6.alloc _)).cellOf (j := 1) rfl, (((hs6.alloc hsc _).drew.b).cell (p := ⟨S, 0, none⟩) hSl.out).trans Hh.out⟩) (fun hHeld => ?_)
    clear hK K
    try simp only [Act.put, List.setIfInBounds_toArray, List.set_cons_zero, List.set_cons_succ]
    refine wpAnyH_ready (rs := [13]) (by kernel_rfl) (by simp) ?_
    refine AllReadyH.cons rfl (fun K hK => ?_) AllReadyH.nil
    rw [if_pos (by rfl)]
    refine wp_append_own_spare _ (.tmp 107) (.tmp 118) 52 rfl W.heap.size 63 i63 6 Yba.underlying52 hi63 hi63s g0 Lj.length M _ rfl (hs6.alloc hsc _).drew.sp ⟨W6.heap.size, 0, none⟩ 1 1 [.int .i64 (t : Int), .int .i64 (x : Int), .int .i64 (i : Int), .int .i64 0, .int .i64 (n : Int), .int .i64 (-1)] (by rfl) rfl (six_new W6 _ _ _ _ _ _ 63) (by simp [Value.oneCell']) (by omega) ?_
    intro w1 hown1 hgr1
    obtain ⟨hT1, hsp1, hbw1⟩ := SpSt.appSp (W := W6.drew) (o := .cells #[.int .i64 (t : Int), .int .i64 (x : Int), .int .i64 (i : Int), .int .i64 0, .int .i64 (n : Int), .int .i64 (-1)] 63) hsc hs6.drew hown1 (drew_grown hgr1)
    have cT0n := hT1.cellOf (j := 0) rfl
    have fT0n := hT1.frozen 0
    refine hK.out _ _ (⟨(Blk.grown (Blk.drew (hob6.alloc (.cells #[.int .i64 (t : Int), .int .i64 (x : Int), .int .i64 (i : Int), .int .i64 0, .int .i64 (n : Int), .int .i64 (-1)] 63))) hgr1 (by simpa using hBg0)).cellOf (j := 1) rfl, (hbw1.cell (p := ⟨S, 0, none⟩) hSl.out).trans Hh.out⟩) (fun hHeld => ?_)
    clear hK K
    try simp only [Act.put, List.setIfInBounds_toArray, List.set_cons_zero, List.set_cons_succ]
    refine wpAnyH_take (i := 14) (v := .pointer (some ⟨T, 0, none⟩)) rfl (by kernel_rfl) (by kernel_rfl) (by kernel_rfl) (fun _ _ _ h => h) (Or.inl ⟨by rfl, fun w hSw => by go_simp⟩) hHeld ?_
    try simp only [Act.put, List.setIfInBounds_toArray, List.set_cons_zero, List.set_cons_succ]
    refine wpAnyH_ready (rs := [15]) (by kernel_rfl) (by simp) ?_
    refine AllReadyH.cons rfl (fun K hK => ?_) AllReadyH.nil
    go_simp
    refine hK.out _ _ (⟨(Blk.setOther (a := ⟨T, 0, none⟩) (Blk.grown (Blk.drew (hob6.alloc (.cells #[.int .i64 (t : Int), .int .i64 (x : Int), .int .i64 (i : Int), .int .i64 0, .int .i64 (n : Int), .int .i64 (-1)] 63))) hgr1 (by simpa using hBg0)) hBT _).cellOf (j := 1) rfl, (hsp1.b.cell (p := ⟨S, 0, none⟩) hSl.out).trans Hh.out⟩) (fun hHeld => ?_)
    clear hK K
    try simp only [Act.put, List.setIfInBounds_toArray, List.set_cons_zero, List.set_cons_succ]
    refine wpAnyH_done (by kernel_rfl) ?_ _
    refine NoPanic.normal ?_
    exact hQ _ _ hsp1 (Blk.setOther (a := ⟨T, 0, none⟩) (Blk.grown (Blk.drew (hob6.alloc (.cells #[.int .i64 (t : Int), .int .i64 (x : Int), .int .i64 (i : Int), .int .i64 0, .int .i64 (n : Int), .int .i64 (-1)] 63))) hgr1 (by simpa using hBg0)) hBT _)
  · go_simp
    refine hK.out _ _ (⟨(Blk.drew (hob6.alloc _)).cellOf (j := 1) rfl, (((hs6.alloc hsc _).drew.b).cell (p := ⟨S, 0, none⟩) hSl.out).trans Hh.out⟩) (fun hHeld => ?_)
    clear hK K
    try simp only [Act.put, List.setIfInBounds_toArray, List.set_cons_zero, List.set_cons_succ]
    refine wpAnyH_ready (rs := [1]) (by kernel_rfl) (by simp) ?_
    refine AllReadyH.cons rfl (fun K hK => ?_) AllReadyH.nil
    go_simp
    refine hK.out _ _ (⟨(Blk.drew (hob6.alloc _)).cellOf (j := 1) rfl, (((hs6.alloc hsc _).drew.b).cell (p := ⟨S, 0, none⟩) hSl.out).trans Hh.out⟩) (fun hHeld => ?_)
    clear hK K
    try simp only [Act.put, List.setIfInBounds_toArray, List.set_cons_zero, List.set_cons_succ]
    refine wpAnyH_ready (rs := [13]) (by kernel_rfl) (by simp) ?_
    refine AllReadyH.cons rfl (fun K hK => ?_) AllReadyH.nil
    rw [if_pos (by rfl)]
    refine wp_append_own_spare _ (.tmp 107) (.tmp 118) 52 rfl W.heap.size 63 i63 6 Yba.underlying52 hi63 hi63s g0 Lj.length M _ rfl (hs6.alloc hsc _).drew.sp ⟨W6.heap.size, 0, none⟩ 1 1 [.int .i64 (t : Int), .int .i64 (x : Int), .int .i64 (i : Int), .int .i64 0, .int .i64 (n : Int), .int .i64 (-1)] (by rfl) rfl (six_new W6 _ _ _ _ _ _ 63) (by simp [Value.oneCell']) (by omega) ?_
    intro w1 hown1 hgr1
    obtain ⟨hT1, hsp1, hbw1⟩ := SpSt.appSp (W := W6.drew) (o := .cells #[.int .i64 (t : Int), .int .i64 (x : Int), .int .i64 (i : Int), .int .i64 0, .int .i64 (n : Int), .int .i64 (-1)] 63) hsc hs6.drew hown1 (drew_grown hgr1)
    have cT0n := hT1.cellOf (j := 0) rfl
    have fT0n := hT1.frozen 0
    refine hK.out _ _ (⟨(Blk.grown (Blk.drew (hob6.alloc (.cells #[.int .i64 (t : Int), .int .i64 (x : Int), .int .i64 (i : Int), .int .i64 0, .int .i64 (n : Int), .int .i64 (-1)] 63))) hgr1 (by simpa using hBg0)).cellOf (j := 1) rfl, (hbw1.cell (p := ⟨S, 0, none⟩) hSl.out).trans Hh.out⟩) (fun hHeld => ?_)
    clear hK K
    try simp only [Act.put, List.setIfInBounds_toArray, List.set_cons_zero, List.set_cons_succ]
    refine wpAnyH_take (i := 14) (v := .pointer (some ⟨T, 0, none⟩)) rfl (by kernel_rfl) (by kernel_rfl) (by kernel_rfl) (fun _ _ _ h => h) (Or.inl ⟨by rfl, fun w hSw => by go_simp⟩) hHeld ?_
    try simp only [Act.put, List.setIfInBounds_toArray, List.set_cons_zero, List.set_cons_succ]
    refine wpAnyH_ready (rs := [15]) (by kernel_rfl) (by simp) ?_
    refine AllReadyH.cons rfl (fun K hK => ?_) AllReadyH.nil
    go_simp
    refine hK.out _ _ (⟨(Blk.setOther (a := ⟨T, 0, none⟩) (Blk.grown (Blk.drew (hob6.alloc (.cells #[.int .i64 (t : Int), .int .i64 (x : Int), .int .i64 (i : Int), .int .i64 0, .int .i64 (n : Int), .int .i64 (-1)] 63))) hgr1 (by simpa using hBg0)) hBT _).cellOf (j := 1) rfl, (hsp1.b.cell (p := ⟨S, 0, none⟩) hSl.out).trans Hh.out⟩) (fun hHeld => ?_)
    clear hK K
    try simp only [Act.put, List.setIfInBounds_toArray, List.set_cons_zero, List.set_cons_succ]
    refine wpAnyH_done (by kernel_rfl) ?_ _
    refine NoPanic.normal ?_
    exact hQ _ _ hsp1 (Blk.setOther (a := ⟨T, 0, none⟩) (Blk.grown (Blk.drew (hob6.alloc (.cells #[.int .i64 (t : Int), .int .i64 (x : Int), .int .i64 (i : Int), .int .i64 0, .int .i64 (n : Int), .int .i64 (-1)] 63))) hgr1 (by simpa using hBg0)) hBT _)

set_option maxHeartbeats 8000000 in
set_option maxRecDepth 100000 in
/-- 'tab.writers = append(tab.writers, k)' -/
theorem spans_write {W W9 : World} {T g0 g1 g3 gso nX nT M : Nat} {vw : Value} {Lk : List (Nat × Nat)} {zs9 l1 l3 so : List Int} {m Bo t k : Nat} {kd x0 : Int} (hsc : SpC W.heap.size T g0 g1 g3 gso) (hs9 : SpSt W W.heap.size T g0 g1 g3 gso nX M vw Lk zs9 l1 l3 so m W9) (hob9 : Blk W9 Bo 34 #[.int .u8 kd, .int .i64 (t : Int), .int .i64 x0])
    (hsl : t < so.length) (Hsk : Hid (so.getD t 0 = (k : Int))) (hmb : m ≤ 1024) (htn : t < nT) (hT : nT ≤ 1024) (hk : k ≤ 1024)
    {K : Act → World → Prop} {Q : Exit → Act → World → Prop} {s0 s1 s2 s3 s4 s5 s8 s9 s10 s11 s13 s14 s15 s16 s17 s18 s19 s20 s21 s22 s23 s24 s25 s26 s27 s28 s29 s30 s31 s32 s33 s34 s35 s36 s37 s38 s39 s40 s41 s42 s43 s44 s45 s46 s47 s48 s49 s50 s51 s52 s53 s54 s55 s56 s57 s58 s59 s60 s61 s62 s63 s64 s65 s66 s67 s68 s69 s70 s71 s72 s73 s74 s75 s76 s77 s78 s79 s80 s81 s82 s83 s84 s85 s86 s87 s88 s89 s90 s91 s92 s93 s94 s95 s96 s97 s98 s99 s100 s101 s102 s103 s104 s105 s106 s107 s108 s109 s110 s111 s112 s113 s114 s115 s116 s117 s118 s119 s120 s121 s122 s123 s124 s125 s126 s127 s128 s129 s130 s131 s132 s133 s134 s135 s136 s137 s138 s139 s140 s141 s142 s143 s144 s145 s146 s147 s148 s149 s150 s151 s152 s153 s154 : Value} {rest : List Value}
    (hQ : ∀ (wc : World) (vw' v146 v152 v153 : Value), SpSt W W.heap.size T g0 g1 g3 gso nX M vw' Lk zs9 l1 l3 so (m + 1) wc → K ⟨(s0 :: s1 :: s2 :: s3 :: s4 :: s5 :: (.pointer (some ⟨T, 0, none⟩)) :: (.slice (some ⟨gso, 0, none⟩) nT nT) :: s8 :: s9 :: s10 :: s11 :: (.pointer (some ⟨Bo, 0, none⟩)) :: s13 :: s14 :: s15 :: s16 :: s17 :: s18 :: s19 :: s20 :: s21 :: s22 :: s23 :: s24 :: s25 :: s26 :: s27 :: s28 :: s29 :: s30 :: s31 :: s32 :: s33 :: s34 :: s35 :: s36 :: s37 :: s38 :: s39 :: s40 :: s41 :: s42 :: s43 :: s44 :: s45 :: s46 :: s47 :: s48 :: s49 :: s50 :: s51 :: s52 :: s53 :: s54 :: s55 :: s56 :: s57 :: s58 :: s59 :: s60 :: s61 :: s62 :: s63 :: s64 :: s65 :: s66 :: s67 :: s68 :: s69 :: s70 :: s71 :: s72 :: s73 :: s74 :: s75 :: s76 :: s77 :: s78 :: s79 :: s80 :: s81 :: s82 :: s83 :: s84 :: s85 :: s86 :: s87 :: s88 :: s89 :: s90 :: s91 :: s92 :: s93 :: s94 :: s95 :: s96 :: s97 :: s98 :: s99 :: s100 :: s101 :: s102 :: s103 :: s104 :: s105 :: s106 :: s107 :: s108 :: s109 :: s110 :: s111 :: s112 :: s113 :: s114 :: s115 :: s116 :: s117 :: s118 :: s119 :: s120 :: s121 :: s122 :: s123 :: s124 :: s125 :: s126 :: s127 :: s128 :: s129 :: s130 :: s131 :: s132 :: s133 :: s134 :: s135 :: s136 :: s137 :: s138 :: s139 :: s140 :: s141 :: s142 :: s143 :: s144 :: (.pointer (some ⟨T, 2, none⟩)) :: (v146) :: (.slice (some ⟨gso, 0, none⟩) nT nT) :: (.pointer (some ⟨Bo, 1, none⟩)) :: (.int .i64 (t : Int)) :: (.pointer (some ⟨gso, t, none⟩)) :: (.int .i64 (k : Int)) :: (v152) :: (v153) :: (.pointer (some ⟨T, 2, none⟩)) :: rest).toArray, []⟩ wc) :
    Code.wp Yba.prog (reg13 26) (Exit.then K Q) ⟨(s0 :: s1 :: s2 :: s3 :: s4 :: s5 :: (.pointer (some ⟨T, 0, none⟩)) :: (.slice (some ⟨gso, 0, none⟩) nT nT) :: s8 :: s9 :: s10 :: s11 :: (.pointer (some ⟨Bo, 0, none⟩)) :: s13 :: s14 :: s15 :: s16 :: s17 :: s18 :: s19 :: s20 :: s21 :: s22 :: s23 :: s24 :: s25 :: s26 :: s27 :: s28 :: s29 :: s30 :: s31 :: s32 :: s33 :: s34 :: s35 :: s36 :: s37 :: s38 :: s39 :: s40 :: s41 :: s42 :: s43 :: s44 :: s45 :: s46 :: s47 :: s48 :: s49 :: s50 :: s51 :: s52 :: s53 :: s54 :: s55 :: s56 :: s57 :: s58 :: s59 :: s60 :: s61 :: s62 :: s63 :: s64 :: s65 :: s66 :: s67 :: s68 :: s69 :: s70 :: s71 :: s72 :: s73 :: s74 :: s75 :: s76 :: s77 :: s78 :: s79 :: s80 :: s81 :: s82 :: s83 :: s84 :: s85 :: s86 :: s87 :: s88 :: s89 :: s90 :: s91 :: s92 :: s93 :: s94 :: s95 :: s96 :: s97 :: s98 :: s99 :: s100 :: s101 :: s102 :: s103 :: s104 :: s105 :: s106 :: s107 :: s108 :: s109 :: s110 :: s111 :: s112 :: s113 :: s114 :: s115 :: s116 :: s117 :: s118 :: s119 :: s120 :: s121 :: s122 :: s123 :: s124 :: s125 :: s126 :: s127 :: s128 :: s129 :: s130 :: s131 :: s132 :: s133 :: s134 :: s135 :: s136 :: s137 :: s138 :: s139 :: s140 :: s141 :: s142 :: s143 :: s144 :: s145 :: s146 :: s147 :: s148 :: s149 :: s150 :: s151 :: s152 :: s153 :: s154 :: rest).toArray, []⟩ W9 := by
  conv => arg 2; whnf
  obtain ⟨xw, hxw8⟩ := hs9.wr
  obtain ⟨aw, cw, rfl, _, _⟩ := own_shape hxw8
  have ck8 := hs9.so.cellOf (j := t) hsl
  rw [Hsk.out] at ck8
  have co8 : W9.cell? ⟨Bo, 1, none⟩ = some (.int .i64 (t : Int)) := hob9.cellOf (j := 1) rfl
  have cT2 : W9.cell? ⟨T, 2, none⟩ = some (.slice aw m cw) := hs9.t.cellOf (j := 2) rfl
  have cT2' : ∀ o, (W9.alloc o).cell? ⟨T, 2, none⟩ = some (.slice aw m cw) := fun o => (hs9.alloc hsc o).t.cellOf (j := 2) rfl
  obtain ⟨i3, hi3, hi3z, hi3s, hi3b⟩ := info_parts info3
  have hBw : some Bo ≠ (Value.slice aw m cw).ownBlock := own_ne_blk hxw8 hob9 (by decide)
  have hGw : some gso ≠ (Value.slice aw m cw).ownBlock := wr_ne hxw8 (Nat.lt_succ_self _)
  have hBT : Bo ≠ T := hob9.ne hs9.t (by decide)
  refine wp_region_noPanic ?_
  refine wp_region_held_drew (S := fun w' => w'.cell? ⟨Bo, 1, none⟩ = some (.int .i64 (t : Int)) ∧ w'.cell? ⟨gso, t, none⟩ = some (.int .i64 (k : Int))) (by kernel_rfl) ⟨co8, ck8⟩ (fun hHeld => ?_)
  refine wpAnyH_take (i := 0) (v := .pointer (some ⟨T, 2, none⟩)) rfl (by kernel_rfl) (by kernel_rfl) (by kernel_rfl) (fun _ _ _ h => h) (Or.inl ⟨by rfl, fun w hSw => by go_simp⟩) hHeld ?_
  try simp only [Act.put, List.setIfInBounds_toArray, List.set_cons_zero, List.set_cons_succ]
  refine wpAnyH_take (i := 2) (v := .slice (some ⟨gso, 0, none⟩) nT nT) rfl (by kernel_rfl) (by kernel_rfl) (by kernel_rfl) (fun _ _ _ h => h) (Or.inl ⟨by rfl, fun w hSw => by go_simp⟩) hHeld ?_
  try simp only [Act.put, List.setIfInBounds_toArray, List.set_cons_zero, List.set_cons_succ]
  refine wpAnyH_take (i := 3) (v := .pointer (some ⟨Bo, 1, none⟩)) rfl (by kernel_rfl) (by kernel_rfl) (by kernel_rfl) (fun _ _ _ h => h) (Or.inl ⟨by rfl, fun w hSw => by go_simp⟩) hHeld ?_
  try simp only [Act.put, List.setIfInBounds_toArray, List.set_cons_zero, List.set_cons_succ]
  refine wpAnyH_take (i := 4) (v := .int .i64 (t : Int)) rfl (by kernel_rfl) (by kernel_rfl) (by kernel_rfl) (fun _ _ _ h => h) (Or.inl ⟨by rfl, fun w hSw => by go_simp⟩) hHeld ?_
  try simp only [Act.put, List.setIfInBounds_toArray, List.set_cons_zero, List.set_cons_succ]
  refine wpAnyH_take (i := 5) (v := .pointer (some ⟨gso, t, none⟩)) rfl (by kernel_rfl) (by kernel_rfl) (by kernel_rfl) (fun _ _ _ h => h) (Or.inl ⟨by rfl, fun w hSw => by go_simp⟩) hHeld ?_
  try simp only [Act.put, List.setIfInBounds_toArray, List.set_cons_zero, List.set_cons_succ]
  refine wpAnyH_take (i := 6) (v := .int .i64 (k : Int)) rfl (by kernel_rfl) (by kernel_rfl) (by kernel_rfl) (fun _ _ _ h => h) (Or.inl ⟨by rfl, fun w hSw => by go_simp⟩) hHeld ?_
  try simp only [Act.put, List.setIfInBounds_toArray, List.set_cons_zero, List.set_cons_succ]
  refine wpAnyH_ready (rs := [1, 7]) (by kernel_rfl) (by simp) ?_
  refine AllReadyH.cons rfl (fun K hK => ?_) (AllReadyH.cons rfl (fun K hK => ?_) AllReadyH.nil)
  · go_simp
    refine hK.out _ _ (hHeld) (fun hHeld => ?_)
    clear hK K
    try simp only [Act.put, List.setIfInBounds_toArray, List.set_cons_zero, List.set_cons_succ]
    refine wpAnyH_ready (rs := [7]) (by kernel_rfl) (by simp) ?_
    refine AllReadyH.cons rfl (fun K hK => ?_) AllReadyH.nil
    go_simp
    refine hK.out _ _ (⟨(Blk.drew (hob9.alloc _)).cellOf (j := 1) rfl, by rw [← Hsk.out]; exact IRow.cellOf (Blk.drew (Blk.alloc hs9.so _)) hsl⟩) (fun hHeld => ?_)
    clear hK K
    try simp only [Act.put, List.setIfInBounds_toArray, List.set_cons_zero, List.set_cons_succ]
    refine wpAnyH_ready (rs := [8]) (by kernel_rfl) (by simp) ?_
    refine AllReadyH.cons rfl (fun K hK => ?_) AllReadyH.nil
    rw [if_pos (by rfl)]
    refine wp_append_own _ (.tmp 146) (.tmp 152) 29 rfl (gso + 1) 3 i3 (.int .i64 0) 1 8 Yba.underlying29 hi3 hi3z hi3s hi3b rfl (by decide) _ m xw rfl (hxw8.alloc _) ⟨W9.heap.size, 0, none⟩ 1 1 [.int .i64 (k : Int)] (by rfl) rfl (one_new W9 _ 3) (by simp [Value.oneCell']) (by unfold maxLen; omega) (by omega) (by have := hs9.size; simp; omega) ?_
    intro v1 w1 hown1 hgr1 _
    obtain ⟨g1w, c1w, rfl, _, _⟩ := own_shape_pos hown1 (by omega)
    obtain ⟨hT1, hsp1, hbw1⟩ := SpSt.appWr (W := W9.drew) (o := .cells #[.int .i64 (k : Int)] 3) hsc hs9.drew hxw8 hown1 (drew_grown hgr1)
    have cT0n := hT1.cellOf (j := 2) rfl
    have fT0n := hT1.frozen 2
    refine hK.out _ _ (⟨(Blk.grown (Blk.drew (hob9.alloc (.cells #[.int .i64 (k : Int)] 3))) hgr1 hBw).cellOf (j := 1) rfl, by rw [← Hsk.out]; exact IRow.cellOf (Blk.grown (Blk.drew (Blk.alloc hs9.so (.cells #[.int .i64 (k : Int)] 3))) hgr1 hGw) hsl⟩) (fun hHeld => ?_)
    clear hK K
    try simp only [Act.put, List.setIfInBounds_toArray, List.set_cons_zero, List.set_cons_succ]
    refine wpAnyH_take (i := 9) (v := .pointer (some ⟨T, 2, none⟩)) rfl (by kernel_rfl) (by kernel_rfl) (by kernel_rfl) (fun _ _ _ h => h) (Or.inl ⟨by rfl, fun w hSw => by go_simp⟩) hHeld ?_
    try simp only [Act.put, List.setIfInBounds_toArray, List.set_cons_zero, List.set_cons_succ]
    refine wpAnyH_ready (rs := [10]) (by kernel_rfl) (by simp) ?_
    refine AllReadyH.cons rfl (fun K hK => ?_) AllReadyH.nil
    go_simp
    refine hK.out _ _ (⟨(Blk.setOther (a := ⟨T, 2, none⟩) (Blk.grown (Blk.drew (hob9.alloc (.cells #[.int .i64 (k : Int)] 3))) hgr1 hBw) hBT _).cellOf (j := 1) rfl, by rw [← Hsk.out]; exact hsp1.so.cellOf hsl⟩) (fun hHeld => ?_)
    clear hK K
    try simp only [Act.put, List.setIfInBounds_toArray, List.set_cons_zero, List.set_cons_succ]
    refine wpAnyH_done (by kernel_rfl) ?_ _
    refine NoPanic.normal ?_
    exact hQ _ _ _ _ _ hsp1
  · go_simp
    refine hK.out _ _ (⟨(Blk.drew (hob9.alloc _)).cellOf (j := 1) rfl, by rw [← Hsk.out]; exact IRow.cellOf (Blk.drew (Blk.alloc hs9.so _)) hsl⟩) (fun hHeld => ?_)
    clear hK K
    try simp only [Act.put, List.setIfInBounds_toArray, List.set_cons_zero, List.set_cons_succ]
    refine wpAnyH_ready (rs := [1]) (by kernel_rfl) (by simp) ?_
    refine AllReadyH.cons rfl (fun K hK => ?_) AllReadyH.nil
    go_simp
    refine hK.out _ _ (⟨(Blk.drew (hob9.alloc _)).cellOf (j := 1) rfl, by rw [← Hsk.out]; exact IRow.cellOf (Blk.drew (Blk.alloc hs9.so _)) hsl⟩) (fun hHeld => ?_)
    clear hK K
    try simp only [Act.put, List.setIfInBounds_toArray, List.set_cons_zero, List.set_cons_succ]
    refine wpAnyH_ready (rs := [8]) (by kernel_rfl) (by simp) ?_
    refine AllReadyH.cons rfl (fun K hK => ?_) AllReadyH.nil
    rw [if_pos (by rfl)]
    refine wp_append_own _ (.tmp 146) (.tmp 152) 29 rfl (gso + 1) 3 i3 (.int .i64 0) 1 8 Yba.underlying29 hi3 hi3z hi3s hi3b rfl (by decide) _ m xw rfl (hxw8.alloc _) ⟨W9.heap.size, 0, none⟩ 1 1 [.int .i64 (k : Int)] (by rfl) rfl (one_new W9 _ 3) (by simp [Value.oneCell']) (by unfold maxLen; omega) (by omega) (by have := hs9.size; simp; omega) ?_
    intro v1 w1 hown1 hgr1 _
    obtain ⟨g1w, c1w, rfl, _, _⟩ := own_shape_pos hown1 (by omega)
    obtain ⟨hT1, hsp1, hbw1⟩ := SpSt.appWr (W := W9.drew) (o := .cells #[.int .i64 (k : Int)] 3) hsc hs9.drew hxw8 hown1 (drew_grown hgr1)
    have cT0n := hT1.cellOf (j := 2) rfl
    have fT0n := hT1.frozen 2
    refine hK.out _ _ (⟨(Blk.grown (Blk.drew (hob9.alloc (.cells #[.int .i64 (k : Int)] 3))) hgr1 hBw).cellOf (j := 1) rfl, by rw [← Hsk.out]; exact IRow.cellOf (Blk.grown (Blk.drew (Blk.alloc hs9.so (.cells #[.int .i64 (k : Int)] 3))) hgr1 hGw) hsl⟩) (fun hHeld => ?_)
    clear hK K
    try simp only [Act.put, List.setIfInBounds_toArray, List.set_cons_zero, List.set_cons_succ]
    refine wpAnyH_take (i := 9) (v := .pointer (some ⟨T, 2, none⟩)) rfl (by kernel_rfl) (by kernel_rfl) (by kernel_rfl) (fun _ _ _ h => h) (Or.inl ⟨by rfl, fun w hSw => by go_simp⟩) hHeld ?_
    try simp only [Act.put, List.setIfInBounds_toArray, List.set_cons_zero, List.set_cons_succ]
    refine wpAnyH_ready (rs := [10]) (by kernel_rfl) (by simp) ?_
    refine AllReadyH.cons rfl (fun K hK => ?_) AllReadyH.nil
    go_simp
    refine hK.out _ _ (⟨(Blk.setOther (a := ⟨T, 2, none⟩) (Blk.grown (Blk.drew (hob9.alloc (.cells #[.int .i64 (k : Int)] 3))) hgr1 hBw) hBT _).cellOf (j := 1) rfl, by rw [← Hsk.out]; exact hsp1.so.cellOf hsl⟩) (fun hHeld => ?_)
    clear hK K
    try simp only [Act.put, List.setIfInBounds_toArray, List.set_cons_zero, List.set_cons_succ]
    refine wpAnyH_done (by kernel_rfl) ?_ _
    refine NoPanic.normal ?_
    exact hQ _ _ _ _ _ hsp1

set_option maxHeartbeats 8000000 in
set_option maxRecDepth 100000 in
theorem spans_end1 {wc : World} {S T g0 g1 g3 nX ci M m cw : Nat} {ai aw : Option Addr} {L : List (Nat × Nat)} {z : Int} (HS0 : Hid (wc.drew.cell? ⟨T, 1, none⟩ = some (.slice (some ⟨g1, 0, none⟩) (nX + 1) (nX + 1)) ∧ wc.drew.cell? ⟨S, 2, none⟩ = some (.slice ai nX ci) ∧ wc.drew.cell? ⟨T, 0, none⟩ = some (.slice (some ⟨g0, 0, none⟩) L.length M))) (HS1 : Hid ((wc.setCell ⟨g1, nX, none⟩ (.int .i64 (L.length : Int))).drew.cell? ⟨T, 1, none⟩ = some (.slice (some ⟨g1, 0, none⟩) (nX + 1) (nX + 1)) ∧ (wc.setCell ⟨g1, nX, none⟩ (.int .i64 (L.length : Int))).drew.cell? ⟨S, 2, none⟩ = some (.slice ai nX ci) ∧ (wc.setCell ⟨g1, nX, none⟩ (.int .i64 (L.length : Int))).drew.cell? ⟨T, 0, none⟩ = some (.slice (some ⟨g0, 0, none⟩) L.length M))) (c1 : wc.cell? ⟨g1, nX, none⟩ = some (.int .i64 z)) (f1 : wc.frozen? ⟨g1, nX, none⟩ = false) (hX : nX ≤ 1024) (hM : L.length ≤ 4096) (hm : m ≤ 4096)
    {K : Act → World → Prop} {Q : Exit → Act → World → Prop} {s1 s2 s3 s4 s5 s7 s8 s9 s10 s11 s12 s13 s14 s15 s16 s17 s18 s19 s20 s21 s22 s23 s24 s25 s26 s27 s28 s29 s30 s31 s32 s33 s34 s35 s36 s37 s38 s39 s40 s41 s42 s43 s44 s45 s46 s47 s48 s49 s50 s51 s52 s53 s54 s55 s56 s57 s58 s59 s60 s61 s62 s63 s64 s65 s66 s67 s68 s69 s70 s71 s72 s73 s74 s75 s76 s77 s78 s79 s80 s81 s82 s83 s84 s85 s86 s87 s88 s89 s90 s91 s92 s93 s94 s95 s96 s97 s98 s99 s100 s101 s102 s103 s104 s105 s106 s107 s108 s109 s110 s111 s112 s113 s114 s115 s116 s117 s118 s119 s120 s121 s122 s123 s124 s125 s126 s127 s128 s129 s130 s131 s132 s133 s134 s135 s136 s137 s138 s139 s140 s141 s142 s143 s144 s145 s146 s147 s148 s149 s150 s151 s152 s153 s154 s155 s156 s157 s158 s159 s160 s161 s162 s163 s164 s165 s166 s167 s168 s169 s170 s171 : Value} {rest : List Value}
    (HQ : Hid (K ⟨((.pointer (some ⟨S, 0, none⟩)) :: s1 :: s2 :: s3 :: s4 :: s5 :: (.pointer (some ⟨T, 0, none⟩)) :: s7 :: s8 :: s9 :: s10 :: s11 :: s12 :: s13 :: s14 :: s15 :: s16 :: s17 :: s18 :: s19 :: s20 :: s21 :: s22 :: s23 :: s24 :: s25 :: s26 :: s27 :: s28 :: s29 :: s30 :: s31 :: s32 :: s33 :: s34 :: s35 :: s36 :: s37 :: s38 :: s39 :: s40 :: s41 :: s42 :: s43 :: s44 :: s45 :: s46 :: s47 :: s48 :: s49 :: s50 :: s51 :: s52 :: s53 :: s54 :: s55 :: s56 :: s57 :: s58 :: s59 :: s60 :: s61 :: s62 :: s63 :: s64 :: s65 :: s66 :: s67 :: s68 :: s69 :: s70 :: s71 :: s72 :: s73 :: s74 :: s75 :: s76 :: s77 :: s78 :: s79 :: s80 :: s81 :: s82 :: s83 :: s84 :: s85 :: s86 :: s87 :: s88 :: s89 :: s90 :: s91 :: s92 :: s93 :: s94 :: s95 :: s96 :: s97 :: s98 :: s99 :: s100 :: s101 :: s102 :: s103 :: s104 :: s105 :: s106 :: s107 :: s108 :: s109 :: s110 :: s111 :: s112 :: s113 :: s114 :: s115 :: s116 :: s117 :: s118 :: s119 :: s120 :: s121 :: s122 :: s123 :: s124 :: s125 :: s126 :: s127 :: s128 :: s129 :: s130 :: s131 :: s132 :: s133 :: s134 :: s135 :: s136 :: s137 :: s138 :: s139 :: s140 :: s141 :: s142 :: s143 :: s144 :: s145 :: s146 :: s147 :: s148 :: s149 :: s150 :: s151 :: s152 :: s153 :: s154 :: s155 :: s156 :: s157 :: s158 :: s159 :: s160 :: (.pointer (some ⟨T, 1, none⟩)) :: (.slice (some ⟨g1, 0, none⟩) (nX + 1) (nX + 1)) :: (.pointer (some ⟨S, 0, none⟩)) :: (.pointer (some ⟨S, 0, none⟩)) :: (.pointer (some ⟨S, 2, none⟩)) :: (.slice ai nX ci) :: (.int .i64 (nX : Int)) :: (.pointer (some ⟨T, 0, none⟩)) :: (.slice (some ⟨g0, 0, none⟩) L.length M) :: (.int .i64 (L.length : Int)) :: (.pointer (some ⟨g1, nX, none⟩)) :: rest).toArray, []⟩ (wc.setCell ⟨g1, nX, none⟩ (.int .i64 (L.length : Int))).drew)) :
    Code.wp Yba.prog (reg13 30) (Exit.then K Q) ⟨((.pointer (some ⟨S, 0, none⟩)) :: s1 :: s2 :: s3 :: s4 :: s5 :: (.pointer (some ⟨T, 0, none⟩)) :: s7 :: s8 :: s9 :: s10 :: s11 :: s12 :: s13 :: s14 :: s15 :: s16 :: s17 :: s18 :: s19 :: s20 :: s21 :: s22 :: s23 :: s24 :: s25 :: s26 :: s27 :: s28 :: s29 :: s30 :: s31 :: s32 :: s33 :: s34 :: s35 :: s36 :: s37 :: s38 :: s39 :: s40 :: s41 :: s42 :: s43 :: s44 :: s45 :: s46 :: s47 :: s48 :: s49 :: s50 :: s51 :: s52 :: s53 :: s54 :: s55 :: s56 :: s57 :: s58 :: s59 :: s60 :: s61 :: s62 :: s63 :: s64 :: s65 :: s66 :: s67 :: s68 :: s69 :: s70 :: s71 :: s72 :: s73 :: s74 :: s75 :: s76 :: s77 :: s78 :: s79 :: s80 :: s81 :: s82 :: s83 :: s84 :: s85 :: s86 :: s87 :: s88 :: s89 :: s90 :: s91 :: s92 :: s93 :: s94 :: s95 :: s96 :: s97 :: s98 :: s99 :: s100 :: s101 :: s102 :: s103 :: s104 :: s105 :: s106 :: s107 :: s108 :: s109 :: s110 :: s111 :: s112 :: s113 :: s114 :: s115 :: s116 :: s117 :: s118 :: s119 :: s120 :: s121 :: s122 :: s123 :: s124 :: s125 :: s126 :: s127 :: s128 :: s129 :: s130 :: s131 :: s132 :: s133 :: s134 :: s135 :: s136 :: s137 :: s138 :: s139 :: s140 :: s141 :: s142 :: s143 :: s144 :: s145 :: s146 :: s147 :: s148 :: s149 :: s150 :: s151 :: s152 :: s153 :: s154 :: s155 :: s156 :: s157 :: s158 :: s159 :: s160 :: s161 :: s162 :: s163 :: s164 :: s165 :: s166 :: s167 :: s168 :: s169 :: s170 :: s171 :: rest).toArray, []⟩ wc := by
  have iX : (nX : Int) < (nX : Int) + 1 := by omega
  conv => arg 2; whnf
  refine wp_region_noPanic ?_
  refine wp_region_held_drew (S := fun w' => w'.cell? ⟨T, 1, none⟩ = some (.slice (some ⟨g1, 0, none⟩) (nX + 1) (nX + 1)) ∧ w'.cell? ⟨S, 2, none⟩ = some (.slice ai nX ci) ∧ w'.cell? ⟨T, 0, none⟩ = some (.slice (some ⟨g0, 0, none⟩) L.length M)) (by kernel_rfl) HS0.out (fun hHeld => ?_)
  refine wpAnyH_take (i := 0) (v := .pointer (some ⟨T, 1, none⟩)) rfl (by kernel_rfl) (by kernel_rfl) (by kernel_rfl) (fun _ _ _ h => h) (Or.inl ⟨by rfl, fun w hSw => by go_simp⟩) hHeld ?_
  try simp only [Act.put, List.setIfInBounds_toArray, List.set_cons_zero, List.set_cons_succ]
  refine wpAnyH_take (i := 1) (v := .slice (some ⟨g1, 0, none⟩) (nX + 1) (nX + 1)) rfl (by kernel_rfl) (by kernel_rfl) (by kernel_rfl) (fun _ _ _ h => h) (Or.inl ⟨by rfl, fun w hSw => by go_simp⟩) hHeld ?_
  try simp only [Act.put, List.setIfInBounds_toArray, List.set_cons_zero, List.set_cons_succ]
  refine wpAnyH_take (i := 2) (v := .pointer (some ⟨S, 0, none⟩)) rfl (by kernel_rfl) (by kernel_rfl) (by kernel_rfl) (fun _ _ _ h => h) (Or.inl ⟨by rfl, fun w hSw => by go_simp⟩) hHeld ?_
  try simp only [Act.put, List.setIfInBounds_toArray, List.set_cons_zero, List.set_cons_succ]
  refine wpAnyH_take (i := 3) (v := .pointer (some ⟨S, 0, none⟩)) rfl (by kernel_rfl) (by kernel_rfl) (by kernel_rfl) (fun _ _ _ h => h) (Or.inl ⟨by rfl, fun w hSw => by go_simp⟩) hHeld ?_
  try simp only [Act.put, List.setIfInBounds_toArray, List.set_cons_zero, List.set_cons_succ]
  refine wpAnyH_take (i := 4) (v := .pointer (some ⟨S, 2, none⟩)) rfl (by kernel_rfl) (by kernel_rfl) (by kernel_rfl) (fun _ _ _ h => h) (Or.inl ⟨by rfl, fun w hSw => by go_simp⟩) hHeld ?_
  try simp only [Act.put, List.setIfInBounds_toArray, List.set_cons_zero, List.set_cons_succ]
  refine wpAnyH_take (i := 5) (v := .slice ai nX ci) rfl (by kernel_rfl) (by kernel_rfl) (by kernel_rfl) (fun _ _ _ h => h) (Or.inl ⟨by rfl, fun w hSw => by go_simp⟩) hHeld ?_
  try simp only [Act.put, List.setIfInBounds_toArray, List.set_cons_zero, List.set_cons_succ]
  refine wpAnyH_take (i := 6) (v := .int .i64 (nX : Int)) rfl (by kernel_rfl) (by kernel_rfl) (by kernel_rfl) (fun _ _ _ h => h) (Or.inl ⟨by rfl, fun w hSw => by go_simp⟩) hHeld ?_
  try simp only [Act.put, List.setIfInBounds_toArray, List.set_cons_zero, List.set_cons_succ]
  refine wpAnyH_take (i := 7) (v := .pointer (some ⟨T, 0, none⟩)) rfl (by kernel_rfl) (by kernel_rfl) (by kernel_rfl) (fun _ _ _ h => h) (Or.inl ⟨by rfl, fun w hSw => by go_simp⟩) hHeld ?_
  try simp only [Act.put, List.setIfInBounds_toArray, List.set_cons_zero, List.set_cons_succ]
  refine wpAnyH_take (i := 8) (v := .slice (some ⟨g0, 0, none⟩) L.length M) rfl (by kernel_rfl) (by kernel_rfl) (by kernel_rfl) (fun _ _ _ h => h) (Or.inl ⟨by rfl, fun w hSw => by go_simp⟩) hHeld ?_
  try simp only [Act.put, List.setIfInBounds_toArray, List.set_cons_zero, List.set_cons_succ]
  refine wpAnyH_take (i := 9) (v := .int .i64 (L.length : Int)) rfl (by kernel_rfl) (by kernel_rfl) (by kernel_rfl) (fun _ _ _ h => h) (Or.inl ⟨by rfl, fun w hSw => by go_simp⟩) hHeld ?_
  try simp only [Act.put, List.setIfInBounds_toArray, List.set_cons_zero, List.set_cons_succ]
  refine wpAnyH_take (i := 10) (v := .pointer (some ⟨g1, nX, none⟩)) rfl (by kernel_rfl) (by kernel_rfl) (by kernel_rfl) (fun _ _ _ h => h) (Or.inl ⟨by rfl, fun w hSw => by go_simp⟩) hHeld ?_
  try simp only [Act.put, List.setIfInBounds_toArray, List.set_cons_zero, List.set_cons_succ]
  refine wpAnyH_ready (rs := [11]) (by kernel_rfl) (by simp) ?_
  refine AllReadyH.cons rfl (fun K hK => ?_) AllReadyH.nil
  go_simp
  refine hK.out _ _ (HS1.out) (fun hHeld => ?_)
  clear hK K
  try simp only [Act.put, List.setIfInBounds_toArray, List.set_cons_zero, List.set_cons_succ]
  refine wpAnyH_done (by kernel_rfl) ?_ _
  refine NoPanic.normal ?_
  exact HQ.out

set_option maxHeartbeats 8000000 in
set_option maxRecDepth 100000 in
theorem spans_end2 {wc : World} {S T g0 g1 g3 nX ci M m cw : Nat} {ai aw : Option Addr} {L : List (Nat × Nat)} {z : Int} (HS0 : Hid (wc.drew.cell? ⟨T, 3, none⟩ = some (.slice (some ⟨g3, 0, none⟩) (nX + 1) (nX + 1)) ∧ wc.drew.cell? ⟨S, 2, none⟩ = some (.slice ai nX ci) ∧ wc.drew.cell? ⟨T, 2, none⟩ = some (.slice aw m cw))) (HS2 : Hid ((wc.setCell ⟨g3, nX, none⟩ (.int .i64 (m : Int))).drew.cell? ⟨T, 3, none⟩ = some (.slice (some ⟨g3, 0, none⟩) (nX + 1) (nX + 1)) ∧ (wc.setCell ⟨g3, nX, none⟩ (.int .i64 (m : Int))).drew.cell? ⟨S, 2, none⟩ = some (.slice ai nX ci) ∧ (wc.setCell ⟨g3, nX, none⟩ (.int .i64 (m : Int))).drew.cell? ⟨T, 2, none⟩ = some (.slice aw m cw))) (c1 : wc.cell? ⟨g3, nX, none⟩ = some (.int .i64 z)) (f1 : wc.frozen? ⟨g3, nX, none⟩ = false) (hX : nX ≤ 1024) (hM : L.length ≤ 4096) (hm : m ≤ 4096)
    {K : Act → World → Prop} {Q : Exit → Act → World → Prop} {s1 s2 s3 s4 s5 s7 s8 s9 s10 s11 s12 s13 s14 s15 s16 s17 s18 s19 s20 s21 s22 s23 s24 s25 s26 s27 s28 s29 s30 s31 s32 s33 s34 s35 s36 s37 s38 s39 s40 s41 s42 s43 s44 s45 s46 s47 s48 s49 s50 s51 s52 s53 s54 s55 s56 s57 s58 s59 s60 s61 s62 s63 s64 s65 s66 s67 s68 s69 s70 s71 s72 s73 s74 s75 s76 s77 s78 s79 s80 s81 s82 s83 s84 s85 s86 s87 s88 s89 s90 s91 s92 s93 s94 s95 s96 s97 s98 s99 s100 s101 s102 s103 s104 s105 s106 s107 s108 s109 s110 s111 s112 s113 s114 s115 s116 s117 s118 s119 s120 s121 s122 s123 s124 s125 s126 s127 s128 s129 s130 s131 s132 s133 s134 s135 s136 s137 s138 s139 s140 s141 s142 s143 s144 s145 s146 s147 s148 s149 s150 s151 s152 s153 s154 s155 s156 s157 s158 s159 s160 s161 s162 s163 s164 s165 s166 s167 s168 s169 s170 s171 s172 s173 s174 s175 s176 s177 s178 s179 s180 s181 s182 : Value} {rest : List Value}
    (HQ : Hid (K ⟨((.pointer (some ⟨S, 0, none⟩)) :: s1 :: s2 :: s3 :: s4 :: s5 :: (.pointer (some ⟨T, 0, none⟩)) :: s7 :: s8 :: s9 :: s10 :: s11 :: s12 :: s13 :: s14 :: s15 :: s16 :: s17 :: s18 :: s19 :: s20 :: s21 :: s22 :: s23 :: s24 :: s25 :: s26 :: s27 :: s28 :: s29 :: s30 :: s31 :: s32 :: s33 :: s34 :: s35 :: s36 :: s37 :: s38 :: s39 :: s40 :: s41 :: s42 :: s43 :: s44 :: s45 :: s46 :: s47 :: s48 :: s49 :: s50 :: s51 :: s52 :: s53 :: s54 :: s55 :: s56 :: s57 :: s58 :: s59 :: s60 :: s61 :: s62 :: s63 :: s64 :: s65 :: s66 :: s67 :: s68 :: s69 :: s70 :: s71 :: s72 :: s73 :: s74 :: s75 :: s76 :: s77 :: s78 :: s79 :: s80 :: s81 :: s82 :: s83 :: s84 :: s85 :: s86 :: s87 :: s88 :: s89 :: s90 :: s91 :: s92 :: s93 :: s94 :: s95 :: s96 :: s97 :: s98 :: s99 :: s100 :: s101 :: s102 :: s103 :: s104 :: s105 :: s106 :: s107 :: s108 :: s109 :: s110 :: s111 :: s112 :: s113 :: s114 :: s115 :: s116 :: s117 :: s118 :: s119 :: s120 :: s121 :: s122 :: s123 :: s124 :: s125 :: s126 :: s127 :: s128 :: s129 :: s130 :: s131 :: s132 :: s133 :: s134 :: s135 :: s136 :: s137 :: s138 :: s139 :: s140 :: s141 :: s142 :: s143 :: s144 :: s145 :: s146 :: s147 :: s148 :: s149 :: s150 :: s151 :: s152 :: s153 :: s154 :: s155 :: s156 :: s157 :: s158 :: s159 :: s160 :: s161 :: s162 :: s163 :: s164 :: s165 :: s166 :: s167 :: s168 :: s169 :: s170 :: s171 :: (.pointer (some ⟨T, 3, none⟩)) :: (.slice (some ⟨g3, 0, none⟩) (nX + 1) (nX + 1)) :: (.pointer (some ⟨S, 0, none⟩)) :: (.pointer (some ⟨S, 0, none⟩)) :: (.pointer (some ⟨S, 2, none⟩)) :: (.slice ai nX ci) :: (.int .i64 (nX : Int)) :: (.pointer (some ⟨T, 2, none⟩)) :: (.slice aw m cw) :: (.int .i64 (m : Int)) :: (.pointer (some ⟨g3, nX, none⟩)) :: rest).toArray, []⟩ (wc.setCell ⟨g3, nX, none⟩ (.int .i64 (m : Int))).drew)) :
    Code.wp Yba.prog (reg13 31) (Exit.then K Q) ⟨((.pointer (some ⟨S, 0, none⟩)) :: s1 :: s2 :: s3 :: s4 :: s5 :: (.pointer (some ⟨T, 0, none⟩)) :: s7 :: s8 :: s9 :: s10 :: s11 :: s12 :: s13 :: s14 :: s15 :: s16 :: s17 :: s18 :: s19 :: s20 :: s21 :: s22 :: s23 :: s24 :: s25 :: s26 :: s27 :: s28 :: s29 :: s30 :: s31 :: s32 :: s33 :: s34 :: s35 :: s36 :: s37 :: s38 :: s39 :: s40 :: s41 :: s42 :: s43 :: s44 :: s45 :: s46 :: s47 :: s48 :: s49 :: s50 :: s51 :: s52 :: s53 :: s54 :: s55 :: s56 :: s57 :: s58 :: s59 :: s60 :: s61 :: s62 :: s63 :: s64 :: s65 :: s66 :: s67 :: s68 :: s69 :: s70 :: s71 :: s72 :: s73 :: s74 :: s75 :: s76 :: s77 :: s78 :: s79 :: s80 :: s81 :: s82 :: s83 :: s84 :: s85 :: s86 :: s87 :: s88 :: s89 :: s90 :: s91 :: s92 :: s93 :: s94 :: s95 :: s96 :: s97 :: s98 :: s99 :: s100 :: s101 :: s102 :: s103 :: s104 :: s105 :: s106 :: s107 :: s108 :: s109 :: s110 :: s111 :: s112 :: s113 :: s114 :: s115 :: s116 :: s117 :: s118 :: s119 :: s120 :: s121 :: s122 :: s123 :: s124 :: s125 :: s126 :: s127 :: s128 :: s129 :: s130 :: s131 :: s132 :: s133 :: s134 :: s135 :: s136 :: s137 :: s138 :: s139 :: s140 :: s141 :: s142 :: s143 :: s144 :: s145 :: s146 :: s147 :: s148 :: s149 :: s150 :: s151 :: s152 :: s153 :: s154 :: s155 :: s156 :: s157 :: s158 :: s159 :: s160 :: s161 :: s162 :: s163 :: s164 :: s165 :: s166 :: s167 :: s168 :: s169 :: s170 :: s171 :: s172 :: s173 :: s174 :: s175 :: s176 :: s177 :: s178 :: s179 :: s180 :: s181 :: s182 :: rest).toArray, []⟩ wc := by
  have iX : (nX : Int) < (nX : Int) + 1 := by omega
  conv => arg 2; whnf
  refine wp_region_noPanic ?_
  refine wp_region_held_drew (S := fun w' => w'.cell? ⟨T, 3, none⟩ = some (.slice (some ⟨g3, 0, none⟩) (nX + 1) (nX + 1)) ∧ w'.cell? ⟨S, 2, none⟩ = some (.slice ai nX ci) ∧ w'.cell? ⟨T, 2, none⟩ = some (.slice aw m cw)) (by kernel_rfl) HS0.out (fun hHeld => ?_)
  refine wpAnyH_take (i := 0) (v := .pointer (some ⟨T, 3, none⟩)) rfl (by kernel_rfl) (by kernel_rfl) (by kernel_rfl) (fun _ _ _ h => h) (Or.inl ⟨by rfl, fun w hSw => by go_simp⟩) hHeld ?_
  try simp only [Act.put, List.setIfInBounds_toArray, List.set_cons_zero, List.set_cons_succ]
  refine wpAnyH_take (i := 1) (v := .slice (some ⟨g3, 0, none⟩) (nX + 1) (nX + 1)) rfl (by kernel_rfl) (by kernel_rfl) (by kernel_rfl) (fun _ _ _ h => h) (Or.inl ⟨by rfl, fun w hSw => by go_simp⟩) hHeld ?_
  try simp only [Act.put, List.setIfInBounds_toArray, List.set_cons_zero, List.set_cons_succ]
  refine wpAnyH_take (i := 2) (v := .pointer (some ⟨S, 0, none⟩)) rfl (by kernel_rfl) (by kernel_rfl) (by kernel_rfl) (fun _ _ _ h => h) (Or.inl ⟨by rfl, fun w hSw => by go_simp⟩) hHeld ?_
  try simp only [Act.put, List.setIfInBounds_toArray, List.set_cons_zero, List.set_cons_succ]
  refine wpAnyH_take (i := 3) (v := .pointer (some ⟨S, 0, none⟩)) rfl (by kernel_rfl) (by kernel_rfl) (by kernel_rfl) (fun _ _ _ h => h) (Or.inl ⟨by rfl, fun w hSw => by go_simp⟩) hHeld ?_
  try simp only [Act.put, List.setIfInBounds_toArray, List.set_cons_zero, List.set_cons_succ]
  refine wpAnyH_take (i := 4) (v := .pointer (some ⟨S, 2, none⟩)) rfl (by kernel_rfl) (by kernel_rfl) (by kernel_rfl) (fun _ _ _ h => h) (Or.inl ⟨by rfl, fun w hSw => by go_simp⟩) hHeld ?_
  try simp only [Act.put, List.setIfInBounds_toArray, List.set_cons_zero, List.set_cons_succ]
  refine wpAnyH_take (i := 5) (v := .slice ai nX ci) rfl (by kernel_rfl) (by kernel_rfl) (by kernel_rfl) (fun _ _ _ h => h) (Or.inl ⟨by rfl, fun w hSw => by go_simp⟩) hHeld ?_
  try simp only [Act.put, List.setIfInBounds_toArray, List.set_cons_zero, List.set_cons_succ]
  refine wpAnyH_take (i := 6) (v := .int .i64 (nX : Int)) rfl (by kernel_rfl) (by kernel_rfl) (by kernel_rfl) (fun _ _ _ h => h) (Or.inl ⟨by rfl, fun w hSw => by go_simp⟩) hHeld ?_
  try simp only [Act.put, List.setIfInBounds_toArray, List.set_cons_zero, List.set_cons_succ]
  refine wpAnyH_take (i := 7) (v := .pointer (some ⟨T, 2, none⟩)) rfl (by kernel_rfl) (by kernel_rfl) (by kernel_rfl) (fun _ _ _ h => h) (Or.inl ⟨by rfl, fun w hSw => by go_simp⟩) hHeld ?_
  try simp only [Act.put, List.setIfInBounds_toArray, List.set_cons_zero, List.set_cons_succ]
  refine wpAnyH_take (i := 8) (v := .slice aw m cw) rfl (by kernel_rfl) (by kernel_rfl) (by kernel_rfl) (fun _ _ _ h => h) (Or.inl ⟨by rfl, fun w hSw => by go_simp⟩) hHeld ?_
  try simp only [Act.put, List.setIfInBounds_toArray, List.set_cons_zero, List.set_cons_succ]
  refine wpAnyH_take (i := 9) (v := .int .i64 (m : Int)) rfl (by kernel_rfl) (by kernel_rfl) (by kernel_rfl) (fun _ _ _ h => h) (Or.inl ⟨by rfl, fun w hSw => by go_simp⟩) hHeld ?_
  try simp only [Act.put, List.setIfInBounds_toArray, List.set_cons_zero, List.set_cons_succ]
  refine wpAnyH_take (i := 10) (v := .pointer (some ⟨g3, nX, none⟩)) rfl (by kernel_rfl) (by kernel_rfl) (by kernel_rfl) (fun _ _ _ h => h) (Or.inl ⟨by rfl, fun w hSw => by go_simp⟩) hHeld ?_
  try simp only [Act.put, List.setIfInBounds_toArray, List.set_cons_zero, List.set_cons_succ]
  refine wpAnyH_ready (rs := [11]) (by kernel_rfl) (by simp) ?_
  refine AllReadyH.cons rfl (fun K hK => ?_) AllReadyH.nil
  go_simp
  refine hK.out _ _ (HS2.out) (fun hHeld => ?_)
  clear hK K
  try simp only [Act.put, List.setIfInBounds_toArray, List.set_cons_zero, List.set_cons_succ]
  refine wpAnyH_done (by kernel_rfl) ?_ _
  refine NoPanic.normal ?_
  exact HQ.out

end Go.Proofs.Ybulkri.A
