/-
  (*rowStore).clone, walked.
-/
import Derived.Test.YbulktmSmall
import Derived.Test.YbulktmCols
import Derived.Deep.DeepCutAuto
import Derived.Deep.CutBlock
import Derived.Deep.RegionHeld3
import Derived.Deep.DrawnRows
import Derived.Laws.ResultCell
namespace Go.Proofs.Ybulktm
open Go.RowKit
set_option linter.unusedVariables false

theorem blk_new2 (w : World) (o : Obj) (e : TypeId) (cur : Array Value) : Blk ((w.alloc o).alloc (.cells cur e)) (w.heap.size + 1) e cur := by
  have := Blk.new (w.alloc o) e cur
  simpa using this
theorem below_two {B : Nat} {w W : World} (h : Below B w W) (hB : B ≤ W.heap.size) (o o' : Obj) : Below B w ((W.alloc o).alloc o') := (h.alloc hB o).alloc (by simp; omega) o'

set_option maxHeartbeats 1000000 in
set_option maxRecDepth 100000 in
/-- (*rowStore).clone -/
theorem rows_clone {w : World} {N R g L cap : Nat} {n : Int} {F : Nat → Col} {D : Nat → Dat} (hL : L ≤ 1024) (hcap : L ≤ cap)
    (c6 : w.cell? ⟨R, 6, none⟩ = some (.int .i64 n)) (c7 : w.cell? ⟨R, 7, none⟩ = some (.slice (some ⟨g, 0, none⟩) L cap))
    (hc : ColsAt w N g L L F D) (hsz : ∀ k, k < L → (D k).tz.length ≤ 1024 ∧ (D k).nz.length ≤ 1024 ∧ (D k).sz.length ≤ 1024) :
    Calls Yba.prog 12 #[.pointer (some ⟨R, 6, none⟩)] w fun e w' => ∃ g' F', e = .returned (.agg #[.int .i64 n, .slice (some ⟨g', 0, none⟩) L L]) ∧ ColsAt w' w.heap.size g' L L F' D ∧ w.heap.size ≤ g' ∧ Below w.heap.size w w' := by
  obtain ⟨Z, hZ, hmk⟩ := make_cols L hL
  have lR : R < w.heap.size := World.block_lt_of_cell? w _ c6
  have H7 : Hid (w.cell? ⟨R, 7, none⟩ = some (.slice (some ⟨g, 0, none⟩) L cap)) := c7
  go_enter Yba.func12, Yba.ntmps12
  go_upto_region 1 with fail
  have hW1b := (Below.refl w.heap.size w).alloc (Nat.le_refl _) (Obj.cells #[Value.int .i64 0, Value.slice none 0 0] 38)
  have hW1k := Blk.new w 38 #[Value.int .i64 0, Value.slice none 0 0]
  have hW1z : (w.alloc (Obj.cells #[Value.int .i64 0, Value.slice none 0 0] 38)).heap.size = w.heap.size + 1 := by simp
  generalize w.alloc (Obj.cells #[Value.int .i64 0, Value.slice none 0 0] 38) = W1 at *
  have d6 : W1.cell? ⟨R, 6, none⟩ = some (.int .i64 n) := (hW1b.cell (p := ⟨R, 6, none⟩) lR).trans c6
  have d7 : W1.cell? ⟨R, 7, none⟩ = some (.slice (some ⟨g, 0, none⟩) L cap) := (hW1b.cell (p := ⟨R, 7, none⟩) lR).trans c7
  have e6 : ∀ o, (W1.alloc o).cell? ⟨R, 6, none⟩ = some (.int .i64 n) := fun o => (((Below.refl _ W1).alloc (Nat.le_refl _) o).cell (p := ⟨R, 6, none⟩) (by show R < _; omega)).trans d6
  have e7 : ∀ o, (W1.alloc o).cell? ⟨R, 7, none⟩ = some (.slice (some ⟨g, 0, none⟩) L cap) := fun o => (((Below.refl _ W1).alloc (Nat.le_refl _) o).cell (p := ⟨R, 7, none⟩) (by show R < _; omega)).trans d7
  have f6 : ∀ o o', ((W1.alloc o).alloc o').cell? ⟨R, 6, none⟩ = some (.int .i64 n) := fun o o' => (((Below.refl _ (W1.alloc o)).alloc (Nat.le_refl _) o').cell (p := ⟨R, 6, none⟩) (by show R < _; simp; omega)).trans (e6 o)
  have f7 : ∀ o o', ((W1.alloc o).alloc o').cell? ⟨R, 7, none⟩ = some (.slice (some ⟨g, 0, none⟩) L cap) := fun o o' => (((Below.refl _ (W1.alloc o)).alloc (Nat.le_refl _) o').cell (p := ⟨R, 7, none⟩) (by show R < _; simp; omega)).trans (e7 o)
  have HZ : Hid (W1.heap.size = w.heap.size + 1) := hW1z
  clear hW1z c6 c7
  go_cut [3] (fun t3 wc => ∃ C g', t3 = .pointer (some ⟨C, 0, none⟩) ∧ w.heap.size + 1 ≤ g' ∧ Blk wc C 38 #[.int .i64 n, .slice (some ⟨g', 0, none⟩) L L] ∧ Blk wc g' 34 Z ∧ Blk wc w.heap.size 38 #[.int .i64 0, .slice none 0 0] ∧ Below w.heap.size w wc)
  case first =>
    go_region
    · go_wp2_with fail
      go_meet
      case rel =>
        have := HZ.out
        exact ⟨_, _, rfl, by omega, blk_new2 W1 _ 38 _, (Blk.new W1 34 Z).alloc _, (hW1k.alloc _).alloc _, (below_two hW1b (by omega) _ _).drew⟩
    · go_wp2_with fail
      go_meet
      case rel =>
        have := HZ.out
        exact ⟨_, _, rfl, by omega, (Blk.new W1 38 _).alloc _, blk_new2 W1 _ 34 _, (hW1k.alloc _).alloc _, (below_two hW1b (by omega) _ _).drew⟩
  case rest =>
    clear d6 d7 e6 e7 f6 f7 hW1b hW1k HZ
    obtain ⟨C, g', rfl, hg', hC, hZb, hR0, hbel⟩ := hcut
    have hcs : ColsAt wc w.heap.size g' L 0 F D := ⟨⟨Z, hZb, hZ, fun j hj => absurd hj (Nat.not_lt_zero _)⟩, fun j hj => absurd hj (Nat.not_lt_zero _)⟩
    have c7' : wc.cell? ⟨R, 7, none⟩ = some (.slice (some ⟨g, 0, none⟩) L cap) := (hbel.cell (p := ⟨R, 7, none⟩) lR).trans H7.out
    clear hmk
    go_wp2_with fail
    go_loopg [22] L (fun gk i wr => ∃ (k : Nat) (F' : Nat → Col), k ≤ L ∧ gk = L - k ∧ i = .int .i64 k ∧ ColsAt wr w.heap.size g' L k F' D ∧ Blk wr C 38 #[.int .i64 n, .slice (some ⟨g', 0, none⟩) L L] ∧ Blk wr w.heap.size 38 #[.int .i64 0, .slice none 0 0] ∧ Below w.heap.size w wr)
    case atStart => exact ⟨0, F, Nat.zero_le _, rfl, rfl, hcs, hC, hR0, hbel⟩
    case round =>
      obtain ⟨k, F', hk, rfl, rfl, hcs', hC', hR', hbel'⟩ := hrel
      by_cases hlt : k < L
      · obtain ⟨q0, q1, q2, q3⟩ := hc.cells hlt
        have hgl := hc.lt
        have p0 := (hbel'.cell (p := ⟨g, k * 4, none⟩) hgl).trans q0
        have p1 := (hbel'.cell (p := ⟨g, k * 4 + 1, none⟩) hgl).trans q1
        have p2 := (hbel'.cell (p := ⟨g, k * 4 + 2, none⟩) hgl).trans q2
        have p3 := (hbel'.cell (p := ⟨g, k * 4 + 3, none⟩) hgl).trans q3
        clear q0 q1 q2 q3
        have hown := hc.own k hlt
        obtain ⟨z1, z2, z3⟩ := hsz k hlt
        go_upto_region 5 with fail
        obtain ⟨i5, hi5, hi50, hi51, hi52⟩ := info_parts info5
        obtain ⟨i47, hi47, hi470, hi471, hi472⟩ := info_parts info47
        obtain ⟨i9, hi9, hi90, hi91, hi92⟩ := info_parts info9
        have hb2 := Blk.new wr 34 #[Value.bool (D k).text, Value.slice (F k).ta (D k).tz.length (F k).tc, Value.slice (F k).na (D k).nz.length (F k).nc, Value.slice (F k).sa (D k).sz.length (F k).sc]
        have hC2 := hC'.alloc (Obj.cells #[Value.bool (D k).text, Value.slice (F k).ta (D k).tz.length (F k).tc, Value.slice (F k).na (D k).nz.length (F k).nc, Value.slice (F k).sa (D k).sz.length (F k).sc] 34)
        have hR2 := hR'.alloc (Obj.cells #[Value.bool (D k).text, Value.slice (F k).ta (D k).tz.length (F k).tc, Value.slice (F k).na (D k).nz.length (F k).nc, Value.slice (F k).sa (D k).sz.length (F k).sc] 34)
        have hcs2 := hcs'.alloc (Obj.cells #[Value.bool (D k).text, Value.slice (F k).ta (D k).tz.length (F k).tc, Value.slice (F k).na (D k).nz.length (F k).nc, Value.slice (F k).sa (D k).sz.length (F k).sc] 34)
        have hbel2 := hbel'.alloc hbel'.size (Obj.cells #[Value.bool (D k).text, Value.slice (F k).ta (D k).tz.length (F k).tc, Value.slice (F k).na (D k).nz.length (F k).nc, Value.slice (F k).sa (D k).sz.length (F k).sc] 34)
        generalize wr.alloc (Obj.cells #[Value.bool (D k).text, Value.slice (F k).ta (D k).tz.length (F k).tc, Value.slice (F k).na (D k).nz.length (F k).nc, Value.slice (F k).sa (D k).sz.length (F k).sc] 34) = W2 at *
        have hbx : wr.heap.size ≠ g' := by have := hcs'.lt; omega
        generalize wr.heap.size = bx at *
        clear p0 p1 p2 p3 hcs' hC' hR' hbel'
        obtain ⟨⟨t0, ht0⟩, ⟨t1, ht1⟩, ⟨t2, ht2⟩, ⟨t3, ht3⟩, hfz⟩ := hcs2.target hlt
        have hT : ∀ w', Below W2.heap.size W2 w' → SlAt w' W2.heap.size (F k).ta (D k).tz.length (F k).tc ((D k).tz.map (Value.int .u8)) := fun w' hb => by
          have := (hown.below (hbel2.mono (Nat.le_refl _))).1.sl
          exact this.later hb
        have hN : ∀ w', Below W2.heap.size W2 w' → SlAt w' W2.heap.size (F k).na (D k).nz.length (F k).nc ((D k).nz.map (Value.int .u64)) := fun w' hb => by
          have := (hown.below (hbel2.mono (Nat.le_refl _))).2.1.sl
          exact this.later hb
        have hSt : ∀ w', Below W2.heap.size W2 w' → SlAt w' W2.heap.size (F k).sa (D k).sz.length (F k).sc ((D k).sz.map Value.string) := fun w' hb => by
          have := (hown.below (hbel2.mono (Nat.le_refl _))).2.2.sl
          exact this.later hb
        have hC1 : W2.cell? ⟨C, 1, none⟩ = some (.slice (some ⟨g', 0, none⟩) L L) := hC2.cellOf rfl
        have x0 : W2.cell? ⟨bx, 0, none⟩ = some (.bool (D k).text) := hb2.cellOf rfl
        have x1 : W2.cell? ⟨bx, 1, none⟩ = some (.slice (F k).ta (D k).tz.length (F k).tc) := hb2.cellOf rfl
        have x2 : W2.cell? ⟨bx, 2, none⟩ = some (.slice (F k).na (D k).nz.length (F k).nc) := hb2.cellOf rfl
        have x3 : W2.cell? ⟨bx, 3, none⟩ = some (.slice (F k).sa (D k).sz.length (F k).sc) := hb2.cellOf rfl
        have lC := hC2.lt
        have lx := hb2.lt
        have lg := hcs2.lt
        have HG : Hid (∀ w', Below W2.heap.size W2 w' → (w'.cell? ⟨g', k * 4, none⟩ = some t0 ∧ w'.cell? ⟨g', k * 4 + 1, none⟩ = some t1 ∧ w'.cell? ⟨g', k * 4 + 2, none⟩ = some t2 ∧ w'.cell? ⟨g', k * 4 + 3, none⟩ = some t3 ∧
            w'.frozen? ⟨g', k * 4, none⟩ = false ∧ w'.frozen? ⟨g', k * 4 + 1, none⟩ = false ∧ w'.frozen? ⟨g', k * 4 + 2, none⟩ = false ∧ w'.frozen? ⟨g', k * 4 + 3, none⟩ = false)) := fun w' hb =>
          ⟨(hb.cell (p := ⟨g', k * 4, none⟩) lg).trans ht0, (hb.cell (p := ⟨g', k * 4 + 1, none⟩) lg).trans ht1, (hb.cell (p := ⟨g', k * 4 + 2, none⟩) lg).trans ht2, (hb.cell (p := ⟨g', k * 4 + 3, none⟩) lg).trans ht3,
           (hb.frozen (p := ⟨g', k * 4, none⟩) lg).trans (hfz _), (hb.frozen (p := ⟨g', k * 4 + 1, none⟩) lg).trans (hfz _), (hb.frozen (p := ⟨g', k * 4 + 2, none⟩) lg).trans (hfz _), (hb.frozen (p := ⟨g', k * 4 + 3, none⟩) lg).trans (hfz _)⟩
        have HS : Hid (∀ w', Below W2.heap.size W2 w' → (w'.cell? ⟨C, 1, none⟩ = some (.slice (some ⟨g', 0, none⟩) L L) ∧ w'.cell? ⟨bx, 0, none⟩ = some (.bool (D k).text) ∧ w'.cell? ⟨bx, 1, none⟩ = some (.slice (F k).ta (D k).tz.length (F k).tc) ∧
            w'.cell? ⟨bx, 2, none⟩ = some (.slice (F k).na (D k).nz.length (F k).nc) ∧ w'.cell? ⟨bx, 3, none⟩ = some (.slice (F k).sa (D k).sz.length (F k).sc))) := fun w' hb =>
          ⟨(hb.cell (p := ⟨C, 1, none⟩) lC).trans hC1, (hb.cell (p := ⟨bx, 0, none⟩) lx).trans x0, (hb.cell (p := ⟨bx, 1, none⟩) lx).trans x1, (hb.cell (p := ⟨bx, 2, none⟩) lx).trans x2, (hb.cell (p := ⟨bx, 3, none⟩) lx).trans x3⟩
        have nC : C ≠ g' := by obtain ⟨cur, hbk, _⟩ := hcs2.blk; exact hC2.ne hbk (by decide)
        have nX : bx ≠ g' := hbx
        have HS4 : Hid (∀ w', Below W2.heap.size W2 w' → ∀ v0 v1 v2 v3, (fun w' : World => w'.cell? ⟨C, 1, none⟩ = some (.slice (some ⟨g', 0, none⟩) L L) ∧ w'.cell? ⟨bx, 0, none⟩ = some (.bool (D k).text) ∧ w'.cell? ⟨bx, 1, none⟩ = some (.slice (F k).ta (D k).tz.length (F k).tc) ∧
            w'.cell? ⟨bx, 2, none⟩ = some (.slice (F k).na (D k).nz.length (F k).nc) ∧ w'.cell? ⟨bx, 3, none⟩ = some (.slice (F k).sa (D k).sz.length (F k).sc)) ((((w'.setCell ⟨g', k * 4, none⟩ v0).setCell ⟨g', k * 4 + 1, none⟩ v1).setCell ⟨g', k * 4 + 2, none⟩ v2).setCell ⟨g', k * 4 + 3, none⟩ v3)) := fun w' hb v0 v1 v2 v3 => by
          obtain ⟨s0, s1, s2, s3, s4⟩ := HS.out w' hb
          refine ⟨?_, ?_, ?_, ?_, ?_⟩
          · rw [World.cell?_setCell_far _ _ _ _ (Ne.symm nC), World.cell?_setCell_far _ _ _ _ (Ne.symm nC), World.cell?_setCell_far _ _ _ _ (Ne.symm nC), World.cell?_setCell_far _ _ _ _ (Ne.symm nC)]; exact s0
          · rw [World.cell?_setCell_far _ _ _ _ (Ne.symm nX), World.cell?_setCell_far _ _ _ _ (Ne.symm nX), World.cell?_setCell_far _ _ _ _ (Ne.symm nX), World.cell?_setCell_far _ _ _ _ (Ne.symm nX)]; exact s1
          · rw [World.cell?_setCell_far _ _ _ _ (Ne.symm nX), World.cell?_setCell_far _ _ _ _ (Ne.symm nX), World.cell?_setCell_far _ _ _ _ (Ne.symm nX), World.cell?_setCell_far _ _ _ _ (Ne.symm nX)]; exact s2
          · rw [World.cell?_setCell_far _ _ _ _ (Ne.symm nX), World.cell?_setCell_far _ _ _ _ (Ne.symm nX), World.cell?_setCell_far _ _ _ _ (Ne.symm nX), World.cell?_setCell_far _ _ _ _ (Ne.symm nX)]; exact s3
          · rw [World.cell?_setCell_far _ _ _ _ (Ne.symm nX), World.cell?_setCell_far _ _ _ _ (Ne.symm nX), World.cell?_setCell_far _ _ _ _ (Ne.symm nX), World.cell?_setCell_far _ _ _ _ (Ne.symm nX)]; exact s4
        have hk0 : (0 : Int) ≤ (k : Int) := Int.natCast_nonneg _
        have hk1 : (k : Int) < (L : Int) := by omega
        have HT : Hid (∀ w', Below W2.heap.size W2 w' → SlAt w' W2.heap.size (F k).ta (D k).tz.length (F k).tc ((D k).tz.map (Value.int .u8))) := hT
        have HN : Hid (∀ w', Below W2.heap.size W2 w' → SlAt w' W2.heap.size (F k).na (D k).nz.length (F k).nc ((D k).nz.map (Value.int .u64))) := hN
        have HSt : Hid (∀ w', Below W2.heap.size W2 w' → SlAt w' W2.heap.size (F k).sa (D k).sz.length (F k).sc ((D k).sz.map Value.string)) := hSt
        clear hT hN hSt hb2 hC1 x0 x1 x2 x3 ht0 ht1 ht2 ht3 hfz nC nX hbx
        go_region_held3 (fun w' => w'.cell? ⟨C, 1, none⟩ = some (.slice (some ⟨g', 0, none⟩) L L) ∧ w'.cell? ⟨bx, 0, none⟩ = some (.bool (D k).text) ∧ w'.cell? ⟨bx, 1, none⟩ = some (.slice (F k).ta (D k).tz.length (F k).tc) ∧
            w'.cell? ⟨bx, 2, none⟩ = some (.slice (F k).na (D k).nz.length (F k).nc) ∧ w'.cell? ⟨bx, 3, none⟩ = some (.slice (F k).sa (D k).sz.length (F k).sc))
          (first | exact HS.out _ (Below.refl _ _) | exact HS.out _ (Below.refl _ _).drew | exact HS.out _ hbA1 | exact HS.out _ hbA2 | exact HS.out _ hbA3 | exact HS4.out _ hbA3 _ _ _ _)
          ((first
            | (refine step_app (by rfl) (.tmp 33) 27 (by rfl) 5 i5 (.int .u8 0) 1 Yba.underlying27 hi5 hi50 hi51 hi52 rfl (by decide) W2.heap.size _ _ _ _ (by rfl) (HT.out _ (Below.refl _ _).drew) (ints_oneCell _ _) (by omega) ?_; intro a1 c1 w1 hown1 hgrow1; have hbA1 := (Below.refl W2.heap.size W2).drew.grown hgrow1 (Nat.le_refl _) (fun k e => by cases e))
            | (refine step_app (by rfl) (.tmp 36) 26 (by rfl) 47 i47 (.int .u64 0) 8 Yba.underlying26 hi47 hi470 hi471 hi472 rfl (by decide) W2.heap.size _ _ _ _ (by rfl) (HN.out _ hbA1) (ints_oneCell _ _) (by omega) ?_; intro a2 c2 w2 hown2 hgrow2; have hbA2 := hbA1.grown hgrow2 hbA1.size (fun k e => by cases e))
            | (refine step_app (by rfl) (.tmp 39) 29 (by rfl) 9 i9 (.string ByteArray.empty) 16 Yba.underlying29 hi9 hi90 hi91 hi92 rfl (by decide) W2.heap.size _ _ _ _ (by rfl) (HSt.out _ hbA2) (one_str _) (by omega) ?_; intro a3 c3 w3 hown3 hgrow3; have hbA3 := hbA2.grown hgrow3 hbA2.size (fun k e => by cases e); obtain ⟨g0, g1, g2, g3, g4, g5, g6, g7⟩ := HG.out _ hbA3)))
        go_wp2_with fail
        go_roundg (L - (k + 1))
        case rel =>
          have d3 : Below W2.heap.size W2 w3 := hbA3
          have o1 : OwnSl w3 w.heap.size 5 a1 (D k).tz.length c1 ((D k).tz.map (Value.int .u8)) := (((OwnSl.mk' hown1).grown hgrow2).grown hgrow3).mono hbel2.size
          have o2 : OwnSl w3 w.heap.size 47 a2 (D k).nz.length c2 ((D k).nz.map (Value.int .u64)) := ((OwnSl.mk' hown2).grown hgrow3).mono (by have := hbA1.size; have := hbel2.size; omega)
          have o3 : OwnSl w3 w.heap.size 9 a3 (D k).sz.length c3 ((D k).sz.map Value.string) := (OwnSl.mk' hown3).mono (by have := hbA2.size; have := hbel2.size; omega)
          have hcs3 := hcs2.below hbA3
          obtain ⟨cur, hbk, _⟩ := hcs3.blk
          have nC : C ≠ g' := (hC2.below hbA3 lC).ne hbk (by decide)
          have nR : w.heap.size ≠ g' := (hR2.below hbA3 hR2.lt).ne hbk (by decide)
          refine ⟨k + 1, _, by omega, rfl, by simp, hcs3.store hlt (c := ⟨a1, c1, a2, c2, a3, c3⟩) ⟨o1, o2, o3⟩, ?_, ?_, ?_⟩
          · exact ((((hC2.below hbA3 lC).setOther nC _).setOther nC _).setOther nC _).setOther nC _
          · exact ((((hR2.below hbA3 hR2.lt).setOther nR _).setOther nR _).setOther nR _).setOther nR _
          · have hg2 : w.heap.size ≤ g' := by omega
            have hb3 := hbel2.trans (hbA3.mono hbel2.size)
            exact (((hb3.setCell (p := ⟨g', k * 4, none⟩) hg2 _).setCell (p := ⟨g', k * 4 + 1, none⟩) hg2 _).setCell (p := ⟨g', k * 4 + 2, none⟩) hg2 _).setCell (p := ⟨g', k * 4 + 3, none⟩) hg2 _
        case measure => omega
      · have k0 := hC'.cellOf (j := 0) rfl
        have k1 := hC'.cellOf (j := 1) rfl
        have k2 := hR'.cellOf (j := 0) rfl
        have k3 := hR'.cellOf (j := 1) rfl
        have k4 := hR'.frozen 0
        have k5 := hR'.frozen 1
        obtain rfl : k = L := by omega
        go_wp2_with fail
        have e1 := hR'.set 0 (.int .i64 n)
        have e2 := e1.set 1 (.slice (some ⟨g', 0, none⟩) k k)
        have j0 := e2.cellOf (j := 0) rfl
        have j1 := e2.cellOf (j := 1) rfl
        have s1 := hcs'.set hR' (by decide) (by decide) (by decide) (by decide) 0 (.int .i64 n)
        have s2 := s1.set e1 (by decide) (by decide) (by decide) (by decide) 1 (.slice (some ⟨g', 0, none⟩) k k)
        have s3 := (hbel'.setCell (p := ⟨w.heap.size, 0, none⟩) (Nat.le_refl _) (.int .i64 n)).setCell (p := ⟨w.heap.size, 1, none⟩) (Nat.le_refl _) (.slice (some ⟨g', 0, none⟩) k k)
        have hg2 : w.heap.size ≤ g' := by omega
        clear hbel' hcs' hC' e1 s1
        generalize ((wr.setCell ⟨w.heap.size, 0, none⟩ (Value.int .i64 n)).setCell ⟨w.heap.size, 1, none⟩ (Value.slice (some ⟨g', 0, none⟩) k k)) = W9 at *
        refine bodyPost_ret (v := .agg #[.int .i64 n, .slice (some ⟨g', 0, none⟩) k k]) ?_ rfl ⟨g', F', rfl, s2, hg2, s3⟩
        have j0' : W9.cell? ⟨w.heap.size, 0, none⟩ = some (.int .i64 n) := j0
        have j1' : W9.cell? ⟨w.heap.size, 1, none⟩ = some (.slice (some ⟨g', 0, none⟩) k k) := j1
        clear j0 j1
        simp [results, go_sem, j0', j1']
end Go.Proofs.Ybulktm
