/-
  The law itself, walked.
-/
import Derived.Test.YbulktmTable
import Derived.Test.YbulktmShape
import Derived.Deep.CutRange
import Derived.Deep.QuietTactic
import Derived.BigQuiet
import Derived.Deep.Light
import Derived.LaidEqlPtr
import Derived.Laws.Concat
namespace Go.Proofs.Ybulktm
open Go.RowKit
set_option linter.unusedVariables false
set_option linter.unusedSimpArgs false

/-- the law's arguments, as the walk has them -/
structure Args (w : World) (ta na sa ka ba : Option Addr) (tn tc nn nc sn sc kn kc bn bc : Nat) (TA NA SA : Nat → Option Addr) (TC NC SC : Nat → Nat) (TX NX : Nat → List Int) (SX : Nat → List ByteArray) (kx bx : List Int) : Prop where
  t : Outer w w.heap.size ta tn tc TA (fun i => (TX i).length) TC (fun i => (TX i).map (Value.int .u8))
  n : Outer w w.heap.size na nn nc NA (fun i => (NX i).length) NC (fun i => (NX i).map (Value.int .u64))
  s : Outer w w.heap.size sa sn sc SA (fun i => (SX i).length) SC (fun i => (SX i).map Value.string)
  k : SlAt w w.heap.size ka kn kc (kx.map (Value.int .u32))
  b : SlAt w w.heap.size ba bn bc (bx.map (Value.int .u64))
  short : ∀ i, ∀ x ∈ SX i, x.size ≤ 140737488351232

/-- 'step_app', the operation written out -/
theorem step_app2 {P : Program} {w : World} {ops : Array Oper} {dst : Option Tmp} {ty : TypeId} {pos : String} {after : Array Edge} {a : Act} {K : Act → World → Prop} {Q : Exit → Act → World → Prop} {E : Prop} (x : Operand) (t : TypeId)
    (e : TypeId) (i : TypeInfo) (z : Value) (bytes : Nat) (ht : P.underlying t = some (.slice e)) (hi : P.info? e = some i) (hz : i.zero = some z) (hs : i.size = 1) (hby : i.bytes = bytes) (hzs : z.cells.size = 1) (hb : bytes ≤ 64)
    (B : Nat) (ao : Option Addr) (n cap : Nat) (xs : List Value) (hx : a.eval x = .slice ao n cap) (h : SlAt w B ao n cap xs) (h1 : ∀ u ∈ xs, u.oneCell' = true) (hn : n ≤ 4096)
    (hK : ∀ a' c' w', w'.ownsRow w.heap.size e 1 (.slice a' n c') n xs → w.grownBy w' none → K (a.put dst (.slice a' n c')) w') :
    if Region.wanted { dst := dst, op := .call { callee := .builtin .append, args := #[.const (.slice none 0 0), x], argTypes := #[t, t] }, type := ty, pos := pos, after := after, guard := none } (yielded ops a.tmps) = true then Oper.wp P { dst := dst, op := .call { callee := .builtin .append, args := #[.const (.slice none 0 0), x], argTypes := #[t, t] }, type := ty, pos := pos, after := after, guard := none } a w K Q else E :=
  step_app rfl x t rfl e i z bytes ht hi hz hs hby hzs hb B ao n cap xs hx h h1 hn hK

/-- the key index at kp -/
def KeyIs (w : World) (N : Nat) (kp : Option Addr) (count : Int) (kn : Nat) (kx : List Int) : Prop :=
  ∃ K q a c, kp = some ⟨K, 0, none⟩ ∧ N ≤ K ∧ Blk w K 51 #[.slice (some ⟨q, 0, none⟩) 1 1, .slice a kn c, .int .i64 count, .int .u64 0] ∧ OwnSl w N 58 a kn c (kx.map (Value.int .u32))

theorem size_of {P : Program} {t : TypeId} {n : Nat} (h : (P.info? t).map (·.size) = some n) : ∃ i, P.info? t = some i ∧ i.size = n := by
  cases e : P.info? t with
  | none => rw [e] at h; cases h
  | some i => rw [e] at h; exact ⟨i, rfl, by simpa using h⟩
theorem size46 : (Yba.prog.info? 46).map (·.size) = some 12 := by kernel_rfl
theorem size51 : (Yba.prog.info? 51).map (·.size) = some 4 := by kernel_rfl
theorem under35 : Yba.prog.underlying 35 = some (.pointer 46) := by kernel_rfl
theorem under44 : Yba.prog.underlying 44 = some (.pointer 51) := by kernel_rfl

theorem KeyIs.sh {w : World} {N : Nat} {kp : Option Addr} {count : Int} {kn : Nat} {kx : List Int} (h : KeyIs w N kp count kn kx) : KeySh w N kp kn := by
  obtain ⟨K, q, a, c, e, hN, hb, ho⟩ := h
  exact ⟨K, q, a, c, count, e, hN, hb, ho.shI⟩
theorem KeyIs.below {w w' : World} {N : Nat} {kp : Option Addr} {count : Int} {kn : Nat} {kx : List Int} (h : KeyIs w N kp count kn kx) (hb' : Below w.heap.size w w') : KeyIs w' N kp count kn kx := by
  obtain ⟨K, q, a, c, e, hN, hb, ho⟩ := h
  exact ⟨K, q, a, c, e, hN, hb.below hb' hb.lt, ho.below hb'⟩


set_option maxHeartbeats 4000000 in
set_option maxRecDepth 100000 in
theorem law_any {w : World} {name : ByteArray} {readers n count first : Int} {hasKeys : Bool}
    {ta na sa ka ba : Option Addr} {tn tc nn nc sn sc kn kc bn bc : Nat} {TA NA SA : Nat → Option Addr} {TC NC SC : Nat → Nat} {TX NX : Nat → List Int} {SX : Nat → List ByteArray} {kx bx : List Int}
    (hA : Args w ta na sa ka ba tn tc nn nc sn sc kn kc bn bc TA NA SA TC NC SC TX NX SX kx bx) :
    Calls Yba.prog 3 #[.string name, .int .i64 readers, .int .i64 n, .slice ta tn tc, .slice na nn nc, .slice sa sn sc, .bool hasKeys, .slice ka kn kc, .int .i64 count, .int .i64 first, .slice ba bn bc] w fun e w' => e = .returned (.bool true) ∧ Below w.heap.size w w' := by
  go_enter Yba.func3, Yba.ntmps3
  go_upto_region 1 with fail
  go_cut [61] from 39 to 60 (fun c wx => w = wx ∧ c = .bool (decide (¬ (tn ≤ 256 ∧ nn ≤ 256 ∧ sn ≤ 256 ∧ kn ≤ 1024 ∧ bn ≤ 1024))))
  case first => as_aux_lemma =>
    by_cases e1 : tn ≤ 256
    · have d1 : decide ((256 : Int) < (tn : Int)) = false := by simp; omega
      by_cases e2 : nn ≤ 256
      · have d2 : decide ((256 : Int) < (nn : Int)) = false := by simp; omega
        by_cases e3 : sn ≤ 256
        · have d3 : decide ((256 : Int) < (sn : Int)) = false := by simp; omega
          by_cases e4 : kn ≤ 1024
          · have d4 : decide ((1024 : Int) < (kn : Int)) = false := by simp; omega
            go_wp2_with fail
            go_meet
            case rel => exact ⟨rfl, by simp [d1, d2, d3, d4, e1, e2, e3, e4]; omega⟩
          · have d4 : decide ((1024 : Int) < (kn : Int)) = true := by simp; omega
            go_wp2_with fail
            go_meet
            case rel => exact ⟨rfl, by simp [d1, d2, d3, d4, e1, e2, e3, e4]⟩
        · have d3 : decide ((256 : Int) < (sn : Int)) = true := by simp; omega
          go_wp2_with fail
          go_meet
          case rel => exact ⟨rfl, by simp [d1, d2, d3, e1, e2, e3]⟩
      · have d2 : decide ((256 : Int) < (nn : Int)) = true := by simp; omega
        go_wp2_with fail
        go_meet
        case rel => exact ⟨rfl, by simp [d1, d2, e1, e2]⟩
    · have d1 : decide ((256 : Int) < (tn : Int)) = true := by simp; omega
      go_wp2_with fail
      go_meet
      case rel => exact ⟨rfl, by simp [d1, e1]⟩
  case rest =>
    obtain ⟨rfl, rfl⟩ := hcut
    by_cases hbig : tn ≤ 256 ∧ nn ≤ 256 ∧ sn ≤ 256 ∧ kn ≤ 1024 ∧ bn ≤ 1024
    case neg =>
      have d1 : decide (¬ (tn ≤ 256 ∧ nn ≤ 256 ∧ sn ≤ 256 ∧ kn ≤ 1024 ∧ bn ≤ 1024)) = true := by simp only [hbig, not_false_eq_true, decide_true]
      rw [d1]
      go_wp2_with fail
      exact bodyPost_ret (v := .bool true) (by simp [results]) rfl ⟨rfl, Below.refl _ _⟩
    have d1 : decide (¬ (tn ≤ 256 ∧ nn ≤ 256 ∧ sn ≤ 256 ∧ kn ≤ 1024 ∧ bn ≤ 1024)) = false := by simp [hbig]
    rw [d1]
    clear d1
    obtain ⟨h1, h2, h3, h4, h5⟩ := hbig
    go_upto_block 0 with fail
    go_cut [64] from 62 to 87 (fun _ wx => w = wx ∧ ∀ i, i < tn → (TX i).length ≤ 1024 ∧ (NX i).length ≤ 1024 ∧ (SX i).length ≤ 1024)
    case first => as_aux_lemma =>
      go_wp2_with fail
      go_loopg [64] tn (fun g i wr => ∃ k : Nat, k ≤ tn ∧ g = tn - k ∧ i = .int .i64 k ∧ w = wr ∧ ∀ i, i < k → (TX i).length ≤ 1024 ∧ (NX i).length ≤ 1024 ∧ (SX i).length ≤ 1024)
      case atStart => exact ⟨0, Nat.zero_le _, rfl, rfl, rfl, fun i hi => absurd hi (Nat.not_lt_zero _)⟩
      case round =>
        obtain ⟨k, hk, rfl, rfl, rfl, hall⟩ := hrel
        by_cases hlt : k < tn
        · obtain ⟨b, off, rfl, _, hc⟩ := hA.t.cells (by omega)
          have hck := hc k hlt
          clear hc
          have d0 : decide ((k : Int) < (tn : Int)) = true := by simp; omega
          go_upto_region 6 with fail
          go_cut [86] from 67 to 85 (fun c wx => w = wx ∧ c = .bool (decide (¬ ((TX k).length ≤ 1024 ∧ (NX k).length ≤ 1024 ∧ (SX k).length ≤ 1024))))
          case first => as_aux_lemma =>
            by_cases e1 : (TX k).length ≤ 1024
            · have d1 : decide ((1024 : Int) < (((TX k).length : Nat) : Int)) = false := by simp; omega
              by_cases e2 : (NX k).length ≤ 1024
              · have d2 : decide ((1024 : Int) < (((NX k).length : Nat) : Int)) = false := by simp; omega
                go_wp2_with (first | (go_at_call 4; refine (nums_any hA.n (by omega) k (by omega)).mono ?_; rintro e w' ⟨rfl, rfl⟩) | (go_at_call 5; refine (strs_any hA.s (by omega) k (by omega)).mono ?_; rintro e w' ⟨rfl, rfl⟩))
                go_meet
                case rel => exact ⟨rfl, by simp [d1, d2, e1, e2]; omega⟩
              · have d2 : decide ((1024 : Int) < (((NX k).length : Nat) : Int)) = true := by simp; omega
                go_wp2_with (first | (go_at_call 4; refine (nums_any hA.n (by omega) k (by omega)).mono ?_; rintro e w' ⟨rfl, rfl⟩) | (go_at_call 5; refine (strs_any hA.s (by omega) k (by omega)).mono ?_; rintro e w' ⟨rfl, rfl⟩))
                go_meet
                case rel => exact ⟨rfl, by simp [d1, d2, e1, e2]⟩
            · have d1 : decide ((1024 : Int) < (((TX k).length : Nat) : Int)) = true := by simp; omega
              go_wp2_with fail
              go_meet
              case rel => exact ⟨rfl, by simp [d1, e1]⟩
          case rest =>
            obtain ⟨rfl, rfl⟩ := hcut
            by_cases hb : (TX k).length ≤ 1024 ∧ (NX k).length ≤ 1024 ∧ (SX k).length ≤ 1024
            · have d1 : decide (¬ ((TX k).length ≤ 1024 ∧ (NX k).length ≤ 1024 ∧ (SX k).length ≤ 1024)) = false := by simp [hb]
              rw [d1]
              clear d1
              go_wp2_with fail
              go_roundg (tn - (k + 1))
              case measure => omega
              case rel => exact ⟨k + 1, by omega, rfl, by simp, rfl, fun i hi => by
                rcases Nat.lt_succ_iff_lt_or_eq.1 hi with h | h
                · exact hall i h
                · exact h ▸ hb⟩
            · have d1 : decide (¬ ((TX k).length ≤ 1024 ∧ (NX k).length ≤ 1024 ∧ (SX k).length ≤ 1024)) = true := by simp only [hb, not_false_eq_true, decide_true]
              rw [d1]
              clear d1
              go_wp2_with fail
              exact bodyPost_ret (v := .bool true) (by simp [results]) rfl ⟨rfl, Below.refl _ _⟩
        · have d0 : decide ((k : Int) < (tn : Int)) = false := by simp; omega
          obtain rfl : k = tn := by omega
          go_wp2_with fail
          go_meet
          case rel => exact ⟨rfl, hall⟩
    case rest =>
      obtain ⟨rfl, hsz⟩ := hcut
      obtain ⟨Z, hZ, hmk⟩ := make_cols tn (by omega)
      go_upto_block 2 with fail
      have hb0 := (Below.refl w.heap.size w).alloc (Nat.le_refl _) (Obj.cells Z 34)
      have hz0 := Blk.new w 34 Z
      generalize w.alloc (Obj.cells Z 34) = W0 at *
      have hc0 : ColsAt W0 w.heap.size w.heap.size tn 0 (fun _ => ⟨none, 0, none, 0, none, 0⟩) (fun i => ⟨decide (0 < (SX i).length), TX i, NX i, SX i⟩) := ⟨⟨Z, hz0, hZ, fun j hj => absurd hj (Nat.not_lt_zero _)⟩, fun j hj => absurd hj (Nat.not_lt_zero _)⟩
      clear hmk hz0 hZ
      go_cut [93] from 88 to 116 (fun _ wx => ∃ F, ColsAt wx w.heap.size w.heap.size tn tn F (fun i => ⟨decide (0 < (SX i).length), TX i, NX i, SX i⟩) ∧ Below w.heap.size w wx)
      case first => as_aux_lemma =>
        go_wp2_with fail
        go_loopg [93] tn (fun g i wr => ∃ (k : Nat) (F : Nat → Col), k ≤ tn ∧ g = tn - k ∧ i = .int .i64 k ∧ ColsAt wr w.heap.size w.heap.size tn k F (fun i => ⟨decide (0 < (SX i).length), TX i, NX i, SX i⟩) ∧ Below w.heap.size w wr)
        case atStart => exact ⟨0, _, Nat.zero_le _, rfl, rfl, hc0, hb0⟩
        case round =>
          obtain ⟨k, F, hk, rfl, rfl, hcs, hbel⟩ := hrel
          by_cases hlt : k < tn
          · obtain ⟨b, off, rfl, hbl, hc⟩ := hA.t.cells (by omega)
            have hck := hc k hlt
            clear hc hc0 hb0
            have d0 : decide ((k : Int) < (tn : Int)) = true := by simp; omega
            have hk0 : (0 : Int) ≤ (k : Int) := Int.natCast_nonneg _
            have hk1 : (k : Int) < (tn : Int) := by omega
            go_upto_region 13 with fail
            obtain ⟨z1, z2, z3⟩ := hsz k hlt
            obtain ⟨i5, hi5, hi50, hi51, hi52⟩ := info_parts info5
            obtain ⟨i47, hi47, hi470, hi471, hi472⟩ := info_parts info47
            obtain ⟨i9, hi9, hi90, hi91, hi92⟩ := info_parts info9
            have lg := hcs.lt
            have HS : Hid (∀ w', Below w.heap.size w w' → w'.cell? ⟨b, off + k, none⟩ = some (.slice (TA k) (TX k).length (TC k))) := fun w' hb => (hb.cell (p := ⟨b, off + k, none⟩) hbl).trans hck
            have HG : Hid (∃ t0 t1 t2 t3, ∀ w', Below wr.heap.size wr w' → (w'.cell? ⟨w.heap.size, k * 4, none⟩ = some t0 ∧ w'.cell? ⟨w.heap.size, k * 4 + 1, none⟩ = some t1 ∧ w'.cell? ⟨w.heap.size, k * 4 + 2, none⟩ = some t2 ∧ w'.cell? ⟨w.heap.size, k * 4 + 3, none⟩ = some t3 ∧ w'.frozen? ⟨w.heap.size, k * 4, none⟩ = false ∧ w'.frozen? ⟨w.heap.size, k * 4 + 1, none⟩ = false ∧ w'.frozen? ⟨w.heap.size, k * 4 + 2, none⟩ = false ∧ w'.frozen? ⟨w.heap.size, k * 4 + 3, none⟩ = false)) := by
              obtain ⟨⟨t0, ht0⟩, ⟨t1, ht1⟩, ⟨t2, ht2⟩, ⟨t3, ht3⟩, hfz⟩ := hcs.target hlt
              exact ⟨t0, t1, t2, t3, fun w' hb => ⟨(hb.cell (p := ⟨w.heap.size, k * 4, none⟩) lg).trans ht0, (hb.cell (p := ⟨w.heap.size, k * 4 + 1, none⟩) lg).trans ht1, (hb.cell (p := ⟨w.heap.size, k * 4 + 2, none⟩) lg).trans ht2, (hb.cell (p := ⟨w.heap.size, k * 4 + 3, none⟩) lg).trans ht3,
                (hb.frozen (p := ⟨w.heap.size, k * 4, none⟩) lg).trans (hfz _), (hb.frozen (p := ⟨w.heap.size, k * 4 + 1, none⟩) lg).trans (hfz _), (hb.frozen (p := ⟨w.heap.size, k * 4 + 2, none⟩) lg).trans (hfz _), (hb.frozen (p := ⟨w.heap.size, k * 4 + 3, none⟩) lg).trans (hfz _)⟩⟩
            have HT : Hid (∀ w', Below w.heap.size w w' → SlAt w' w.heap.size (TA k) (TX k).length (TC k) ((TX k).map (Value.int .u8))) := fun w' hb => (hA.t.rows k).later hb
            have HN : Hid (∀ w', Below w.heap.size w w' → SlAt w' w.heap.size (NA k) (NX k).length (NC k) ((NX k).map (Value.int .u64))) := fun w' hb => (hA.n.rows k).later hb
            have HSt : Hid (∀ w', Below w.heap.size w w' → SlAt w' w.heap.size (SA k) (SX k).length (SC k) ((SX k).map Value.string)) := fun w' hb => (hA.s.rows k).later hb
            have H4 : Hid (∀ w', Below w.heap.size w w' → Calls Yba.prog 4 #[.slice na nn nc, .int .i64 k] w' fun e w'' => e = .returned (.slice (NA k) (NX k).length (NC k)) ∧ w' = w'') := fun w' hb => (nums_any (hA.n.later hb) (by omega) k (by omega)).mono fun _ _ h => ⟨h.1, h.2.symm⟩
            have H5 : Hid (∀ w', Below w.heap.size w w' → Calls Yba.prog 5 #[.slice sa sn sc, .int .i64 k] w' fun e w'' => e = .returned (.slice (SA k) (SX k).length (SC k)) ∧ w' = w'') := fun w' hb => (strs_any (hA.s.later hb) (by omega) k (by omega)).mono fun _ _ h => ⟨h.1, h.2.symm⟩
            have H6 : Hid (∀ w', Below w.heap.size w w' → Calls Yba.prog 6 #[.slice sa sn sc, .int .i64 k] w' fun e w'' => e = .returned (.bool (decide (0 < (SX k).length))) ∧ w' = w'') := fun w' hb => (text_any (hA.s.later hb) (by omega) k (by omega)).mono fun _ _ h => ⟨h.1, h.2.symm⟩
            have hbW := (Below.refl wr.heap.size wr).drew
            have hbB := hbel.drew
            clear hck hA
            go_region_held3 (fun w' => w'.cell? ⟨b, off + k, none⟩ = some (.slice (TA k) (TX k).length (TC k)))
              (first | exact HS.out _ hbB | exact HS.out _ hbB1 | exact HS.out _ hbB2 | exact HS.out _ hbB3 | exact HS.out _ hbB4)
              ((first
                | (go_at_call 6; refine (H6.out _ hbB).mono ?_; rintro e w' ⟨rfl, rfl⟩)
                | (go_at_call 4; refine (H4.out _ hbB1).mono ?_; rintro e w' ⟨rfl, rfl⟩)
                | (go_at_call 5; refine (H5.out _ hbB2).mono ?_; rintro e w' ⟨rfl, rfl⟩)
                | (refine step_app2 (.tmp 104) 27 5 i5 (.int .u8 0) 1 Yba.underlying27 hi5 hi50 hi51 hi52 rfl (by decide) w.heap.size _ _ _ _ (by rfl) (HT.out _ hbB) (ints_oneCell _ _) (by omega) ?_; intro a1 c1 w1 hown1 hgrow1; have hbA1 := hbW.grown hgrow1 (Nat.le_refl _) (fun k e => by cases e); have hbB1 := hbB.grown hgrow1 hbB.size (fun k e => by cases e))
                | (refine step_app2 (.tmp 108) 26 47 i47 (.int .u64 0) 8 Yba.underlying26 hi47 hi470 hi471 hi472 rfl (by decide) w.heap.size _ _ _ _ (by rfl) (HN.out _ hbB1) (ints_oneCell _ _) (by omega) ?_; intro a2 c2 w2 hown2 hgrow2; have hbA2 := hbA1.grown hgrow2 hbA1.size (fun k e => by cases e); have hbB2 := hbB1.grown hgrow2 hbB1.size (fun k e => by cases e))
                | (refine step_app2 (.tmp 112) 29 9 i9 (.string ByteArray.empty) 16 Yba.underlying29 hi9 hi90 hi91 hi92 rfl (by decide) w.heap.size _ _ _ _ (by rfl) (HSt.out _ hbB2) (one_str _) (by omega) ?_; intro a3 c3 w3 hown3 hgrow3; have hbA3 := hbA2.grown hgrow3 hbA2.size (fun k e => by cases e); have hbB3 := hbB2.grown hgrow3 hbB2.size (fun k e => by cases e); obtain ⟨t0, t1, t2, t3, HG'⟩ := HG.out; obtain ⟨g0, g1, g2, g3, g4, g5, g6, g7⟩ := HG' _ hbA3; have hbB4 := (((hbB3.setCell (p := ⟨w.heap.size, k * 4, none⟩) (Nat.le_refl _) (.bool (decide (0 < (SX k).length)))).setCell (p := ⟨w.heap.size, k * 4 + 1, none⟩) (Nat.le_refl _) (.slice a1 (TX k).length c1)).setCell (p := ⟨w.heap.size, k * 4 + 2, none⟩) (Nat.le_refl _) (.slice a2 (NX k).length c2)).setCell (p := ⟨w.heap.size, k * 4 + 3, none⟩) (Nat.le_refl _) (.slice a3 (SX k).length c3))
                | fail))
            go_wp2_with fail
            go_roundg (tn - (k + 1))
            case measure => omega
            case rel =>
              have o1 : OwnSl w3 w.heap.size 5 a1 (TX k).length c1 ((TX k).map (Value.int .u8)) := (((OwnSl.mk' hown1).grown hgrow2).grown hgrow3).mono hbel.size
              have o2 : OwnSl w3 w.heap.size 47 a2 (NX k).length c2 ((NX k).map (Value.int .u64)) := ((OwnSl.mk' hown2).grown hgrow3).mono hbB1.size
              have o3 : OwnSl w3 w.heap.size 9 a3 (SX k).length c3 ((SX k).map Value.string) := (OwnSl.mk' hown3).mono hbB2.size
              have hcs3 := hcs.below hbA3
              exact ⟨k + 1, _, by omega, rfl, by simp, hcs3.store hlt (c := ⟨a1, c1, a2, c2, a3, c3⟩) ⟨o1, o2, o3⟩, hbB4⟩
          · have d0 : decide ((k : Int) < (tn : Int)) = false := by simp; omega
            obtain rfl : k = tn := by omega
            go_wp2_with fail
            go_meet
            case rel => exact ⟨F, hcs, hbel⟩
      case rest =>
        obtain ⟨F, hcs, hbel⟩ := hcut
        clear hb0 hc0
        obtain ⟨i47, hi47, hi470, hi471, hi472⟩ := info_parts info47
        go_upto_region 16 with (first | (refine wpList_app (by rfl) (.tmp 117) 26 (by rfl) 47 i47 (.int .u64 0) 8 Yba.underlying26 hi47 hi470 hi471 hi472 rfl (by decide) w.heap.size _ _ _ _ (by rfl) (hA.b.later hbel) (ints_oneCell _ _) (by omega) ?_; intro ab cb wb hownb hgrowb))
        have hcsb := hcs.grown hgrowb
        have hbelb := hbel.grown hgrowb hbel.size (fun k e => by cases e)
        have hob := (OwnSl.mk' hownb).mono hbel.size
        clear hcs hbel hownb hgrowb
        go_upto_if 130 with fail
        have hT : Blk ((wb.alloc (Obj.cells #[Value.int .i64 0] 3)).alloc (Obj.cells #[Value.string name, Value.slice none 0 0, Value.map none, Value.slice (some ⟨wb.heap.size, 0, none⟩) 1 1, Value.string ⟨#[]⟩, Value.int .u8 0, Value.int .i64 n, Value.slice (some ⟨w.heap.size, 0, none⟩) tn tn, Value.pointer none, Value.int .i64 readers, Value.int .i64 first, Value.slice ab bn cb] 46)) (wb.heap.size + 1) 46 (tab name wb.heap.size n w.heap.size tn tn none readers first ab bn cb) := blk_new2 wb _ 46 _
        have hcs1 := (hcsb.alloc (Obj.cells #[Value.int .i64 0] 3)).alloc (Obj.cells #[Value.string name, Value.slice none 0 0, Value.map none, Value.slice (some ⟨wb.heap.size, 0, none⟩) 1 1, Value.string ⟨#[]⟩, Value.int .u8 0, Value.int .i64 n, Value.slice (some ⟨w.heap.size, 0, none⟩) tn tn, Value.pointer none, Value.int .i64 readers, Value.int .i64 first, Value.slice ab bn cb] 46)
        have hob1 := (hob.alloc (Obj.cells #[Value.int .i64 0] 3)).alloc (Obj.cells #[Value.string name, Value.slice none 0 0, Value.map none, Value.slice (some ⟨wb.heap.size, 0, none⟩) 1 1, Value.string ⟨#[]⟩, Value.int .u8 0, Value.int .i64 n, Value.slice (some ⟨w.heap.size, 0, none⟩) tn tn, Value.pointer none, Value.int .i64 readers, Value.int .i64 first, Value.slice ab bn cb] 46)
        have hbel1 := below_two hbelb hbelb.size (Obj.cells #[Value.int .i64 0] 3) (Obj.cells #[Value.string name, Value.slice none 0 0, Value.map none, Value.slice (some ⟨wb.heap.size, 0, none⟩) 1 1, Value.string ⟨#[]⟩, Value.int .u8 0, Value.int .i64 n, Value.slice (some ⟨w.heap.size, 0, none⟩) tn tn, Value.pointer none, Value.int .i64 readers, Value.int .i64 first, Value.slice ab bn cb] 46)
        have hTN : w.heap.size ≤ wb.heap.size + 1 := by have := hbelb.size; omega
        generalize ((wb.alloc (Obj.cells #[Value.int .i64 0] 3)).alloc (Obj.cells #[Value.string name, Value.slice none 0 0, Value.map none, Value.slice (some ⟨wb.heap.size, 0, none⟩) 1 1, Value.string ⟨#[]⟩, Value.int .u8 0, Value.int .i64 n, Value.slice (some ⟨w.heap.size, 0, none⟩) tn tn, Value.pointer none, Value.int .i64 readers, Value.int .i64 first, Value.slice ab bn cb] 46)) = W1 at *
        clear hcsb hbelb hob
        generalize wb.heap.size + 1 = T at *
        generalize wb.heap.size = qk at *
        clear i47 hi47 hi470 hi471 hi472
        go_cut [130] from 117 to 139 (fun _ wx => ∃ kp, Blk wx T 46 (tab name qk n w.heap.size tn tn kp readers first ab bn cb) ∧ (hasKeys = true → KeyIs wx w.heap.size kp count kn kx) ∧ (hasKeys = false → kp = none) ∧ ColsAt wx w.heap.size w.heap.size tn tn F (fun i => ⟨decide (0 < (SX i).length), TX i, NX i, SX i⟩) ∧ OwnSl wx w.heap.size 47 ab bn cb (bx.map (Value.int .u64)) ∧ Below w.heap.size w wx)
        case first => as_aux_lemma =>
          cases hasKeys with
          | false =>
            go_wp2_with fail
            go_meet
            case rel => exact ⟨none, hT, (fun h => absurd h (by decide)), (fun _ => rfl), hcs1, hob1, hbel1⟩
          | true =>
            obtain ⟨i58, hi58, hi580, hi581, hi582⟩ := info_parts info58
            have hb2 := hbel1.alloc hbel1.size (Obj.cells #[Value.int .i64 0] 3)
            have hT2 := hT.alloc (Obj.cells #[Value.int .i64 0] 3)
            go_wp2_with (first | (refine wpList_app (by rfl) (.tmp 133) 25 (by rfl) 58 i58 (.int .u32 0) 4 Yba.underlying25 hi58 hi580 hi581 hi582 rfl (by decide) w.heap.size _ _ _ _ (by rfl) (hA.k.later hb2) (ints_oneCell _ _) (by omega) ?_; intro a1 c1 w1 hown1 hgrow1; have hT3 := hT2.grown hgrow1 (by simp); have hT4 := hT3.alloc (.cells #[.slice (some ⟨W1.heap.size, 0, none⟩) 1 1, .slice a1 kn c1, .int .i64 count, .int .u64 0] 51); have t1 := hT4.cellOf (j := 8) rfl; have t2 := hT4.frozen 8))
            go_meet
            case rel =>
              have hb3 := hb2.grown hgrow1 hb2.size (fun k e => by cases e)
              have hb4 := hb3.alloc hb3.size (.cells #[.slice (some ⟨W1.heap.size, 0, none⟩) 1 1, .slice a1 kn c1, .int .i64 count, .int .u64 0] 51)
              have hcs4 := ((hcs1.alloc (Obj.cells #[Value.int .i64 0] 3)).grown hgrow1).alloc (.cells #[.slice (some ⟨W1.heap.size, 0, none⟩) 1 1, .slice a1 kn c1, .int .i64 count, .int .u64 0] 51)
              have hob4 := ((hob1.alloc (Obj.cells #[Value.int .i64 0] 3)).grown hgrow1).alloc (.cells #[.slice (some ⟨W1.heap.size, 0, none⟩) 1 1, .slice a1 kn c1, .int .i64 count, .int .u64 0] 51)
              have hK4 := Blk.new w1 51 #[.slice (some ⟨W1.heap.size, 0, none⟩) 1 1, .slice a1 kn c1, .int .i64 count, .int .u64 0]
              have ho4 := ((OwnSl.mk' hown1).mono hb2.size).alloc (.cells #[.slice (some ⟨W1.heap.size, 0, none⟩) 1 1, .slice a1 kn c1, .int .i64 count, .int .u64 0] 51)
              exact ⟨some ⟨w1.heap.size, 0, none⟩, hT4.set 8 _, (fun _ => ⟨w1.heap.size, W1.heap.size, a1, c1, rfl, hb3.size, hK4.setOther (a := ⟨T, 8, none⟩) (hK4.ne hT4 (by decide)) _, ho4.set hT4 (by decide) 8 _⟩), (fun h => absurd h (by decide)), hcs4.set hT4 (by decide) (by decide) (by decide) (by decide) 8 _, hob4.set hT4 (by decide) 8 _, hb4.setCell (p := ⟨T, 8, none⟩) hTN _⟩
        case rest =>
          obtain ⟨kp, hT2, hk1, hk0, hcs2, hob2, hbel2⟩ := hcut
          clear hT hcs1 hob1 hbel1
          rename World => W2
          go_upto_region 19 with fail
          go_cut [28] from 140 to 141 (fun c wx => ∃ T' g' F' kp', c = .pointer (some ⟨T', 0, none⟩) ∧ W2.heap.size ≤ T' ∧ Blk wx T' 46 (tab name qk n g' tn tn kp' 0 first ab bn cb) ∧ (hasKeys = true → KeyIs wx W2.heap.size kp' count kn kx) ∧ (hasKeys = false → kp' = none) ∧ ColsAt wx W2.heap.size g' tn tn F' (fun i => ⟨decide (0 < (SX i).length), TX i, NX i, SX i⟩) ∧ W2.heap.size ≤ g' ∧ Below W2.heap.size W2 wx)
          case first => as_aux_lemma =>
            cases hasKeys with
            | false =>
              obtain rfl := hk0 rfl
              go_wp2_with (go_at_call 7; refine (table_clone0 (by omega) (Nat.le_refl _) hT2 hcs2 hsz).mono ?_; rintro e w5 ⟨T', g', F', rfl, q1, q2, q3, q4, q5⟩)
              go_meet
              case rel => exact ⟨T', g', F', none, rfl, q1, q2, (fun h => absurd h (by decide)), (fun _ => rfl), q3, q4, q5⟩
            | true =>
              obtain ⟨K, q, a, c, rfl, hKN, hKb, hKo⟩ := hk1 rfl
              go_wp2_with (go_at_call 7; refine (table_clone1 (by omega) (Nat.le_refl _) (by omega) hKb hKo.sl hT2 hcs2 hsz).mono ?_; rintro e w5 ⟨T', g', F', K', a', c', rfl, q1, q2, q3, q4, q5, q6, q7, q8⟩)
              go_meet
              case rel => exact ⟨T', g', F', some ⟨K', 0, none⟩, rfl, q1, q2, (fun _ => ⟨K', q, a', c', rfl, q5, q6, q7⟩), (fun h => absurd h (by decide)), q3, q4, q8⟩
          case rest =>
            obtain ⟨T', g', F', kp', rfl, hT', hTb', hk1', hk0', hcs', hg', hbc⟩ := hcut
            rename World => W3
            have lT := hT2.lt
            have nT : T' ≠ T := by omega
            have hb3 := hbel2.trans (hbc.mono hbel2.size)
            have x0 : W3.cell? ⟨T', 0, none⟩ = some (.string name) := hTb'.cellOf rfl
            have x6 : W3.cell? ⟨T', 6, none⟩ = some (.int .i64 n) := hTb'.cellOf rfl
            have x7 : W3.cell? ⟨T', 7, none⟩ = some (.slice (some ⟨g', 0, none⟩) tn tn) := hTb'.cellOf rfl
            have x9 : W3.cell? ⟨T', 9, none⟩ = some (.int .i64 0) := hTb'.cellOf rfl
            have x10 : W3.cell? ⟨T', 10, none⟩ = some (.int .i64 first) := hTb'.cellOf rfl
            have x11 : W3.cell? ⟨T', 11, none⟩ = some (.slice ab bn cb) := hTb'.cellOf rfl
            have y9 : W3.cell? ⟨T, 9, none⟩ = some (.int .i64 readers) := (hT2.below hbc lT).cellOf rfl
            obtain ⟨i46, hi46, hs46⟩ := size_of size46
            have hpe := run_eql_ptr_other (P := Yba.prog) W3 (a := ⟨T', 0, none⟩) (b := ⟨T, 0, none⟩) under35 hi46 (by omega) (by simp [nT]) hTb' (hT2.below hbc lT)
            have hob3 := (hob2.below hbc).sl
            have hbb3 := hA.b.later hb3
            go_upto_block 4 with (first | (go_at_call 8; refine (eq64_same hob3 hbb3 (by omega)).mono ?_; rintro e w' ⟨rfl, q, rfl⟩; simp only [World.cell?_drewN] at *))
            clear x0 x6 x9 x10 x11 y9 hpe hob3 hbb3
            have hq : Below W3.heap.size W3 (W3.drewN q) := below_drewN (Below.refl _ _) q
            generalize W3.drewN q = wq at hq
            go_cut [207] from 142 to 252 (fun _ wx => Below W3.heap.size W3 wx)
            case first => as_aux_lemma =>
              go_wp2_with fail
              go_loopg [207] tn (fun g i wr => ∃ k : Nat, k ≤ tn ∧ g = tn - k ∧ i = .int .i64 k ∧ Below W3.heap.size W3 wr)
              case atStart => exact ⟨0, Nat.zero_le _, rfl, rfl, hq⟩
              case round =>
                obtain ⟨k, hk, rfl, rfl, hbr⟩ := hrel
                by_cases hlt : k < tn
                · obtain ⟨b, off, rfl, hbl, hc⟩ := hA.t.cells (by omega)
                  have d0 : decide ((k : Int) < (tn : Int)) = true := by simp; omega
                  have hk0 : (0 : Int) ≤ (k : Int) := Int.natCast_nonneg _
                  have hk1 : (k : Int) < (tn : Int) := by omega
                  have x7r : wr.cell? ⟨T', 7, none⟩ = some (.slice (some ⟨g', 0, none⟩) tn tn) := (hbr.cell (p := ⟨T', 7, none⟩) hTb'.lt).trans x7
                  obtain ⟨z1, z2, z3⟩ := hsz k hlt
                  have hcsr := hcs'.below hbr
                  obtain ⟨p0, p1, p2, p3⟩ := hcsr.cells hlt
                  have hownr := hcsr.own k hlt
                  have hbw := hb3.trans (hbr.mono hb3.size)
                  have hckr : wr.cell? ⟨b, off + k, none⟩ = some (.slice (TA k) (TX k).length (TC k)) := (hbw.cell (p := ⟨b, off + k, none⟩) hbl).trans (hc k hlt)
                  clear hc
                  go_upto_region 32 with fail
                  dsimp only at p0 p1 p2 p3
                  have hb2 := Blk.new wr 34 #[Value.bool (decide (0 < (SX k).length)), Value.slice (F' k).ta (TX k).length (F' k).tc, Value.slice (F' k).na (NX k).length (F' k).nc, Value.slice (F' k).sa (SX k).length (F' k).sc]
                  have ho2 := hownr.alloc (Obj.cells #[Value.bool (decide (0 < (SX k).length)), Value.slice (F' k).ta (TX k).length (F' k).tc, Value.slice (F' k).na (NX k).length (F' k).nc, Value.slice (F' k).sa (SX k).length (F' k).sc] 34)
                  have hbw2 := hbw.alloc hbw.size (Obj.cells #[Value.bool (decide (0 < (SX k).length)), Value.slice (F' k).ta (TX k).length (F' k).tc, Value.slice (F' k).na (NX k).length (F' k).nc, Value.slice (F' k).sa (SX k).length (F' k).sc] 34)
                  have hbr2 := hbr.alloc hbr.size (Obj.cells #[Value.bool (decide (0 < (SX k).length)), Value.slice (F' k).ta (TX k).length (F' k).tc, Value.slice (F' k).na (NX k).length (F' k).nc, Value.slice (F' k).sa (SX k).length (F' k).sc] 34)
                  generalize wr.alloc (Obj.cells #[Value.bool (decide (0 < (SX k).length)), Value.slice (F' k).ta (TX k).length (F' k).tc, Value.slice (F' k).na (NX k).length (F' k).nc, Value.slice (F' k).sa (SX k).length (F' k).sc] 34) = W4 at *
                  have v0 := hb2.cellOf (j := 0) rfl
                  have v1 := hb2.cellOf (j := 1) rfl
                  have v2 := hb2.cellOf (j := 2) rfl
                  have v3 := hb2.cellOf (j := 3) rfl
                  have hck4 : W4.cell? ⟨b, off + k, none⟩ = some (.slice (TA k) (TX k).length (TC k)) := (hbw2.cell (p := ⟨b, off + k, none⟩) hbl).trans ((hbw.cell (p := ⟨b, off + k, none⟩) hbl).symm.trans hckr)
                  clear p0 p1 p2 p3 hckr x7r hownr hcsr hb2
                  generalize wr.heap.size = bw at *
                  obtain ⟨o1, o2, o3⟩ := ho2
                  have H4 : Hid (∀ m, Calls Yba.prog 4 #[.slice na nn nc, .int .i64 k] (W4.drewN m) fun e w'' => e = .returned (.slice (NA k) (NX k).length (NC k)) ∧ w'' = W4.drewN m) := fun m => nums_any (hA.n.later (below_drewN hbw2 m)) (by omega) k (by omega)
                  have H5 : Hid (∀ m, Calls Yba.prog 5 #[.slice sa sn sc, .int .i64 k] (W4.drewN m) fun e w'' => e = .returned (.slice (SA k) (SX k).length (SC k)) ∧ w'' = W4.drewN m) := fun m => strs_any (hA.s.later (below_drewN hbw2 m)) (by omega) k (by omega)
                  have H6 : Hid (∀ m, Calls Yba.prog 6 #[.slice sa sn sc, .int .i64 k] (W4.drewN m) fun e w'' => e = .returned (.bool (decide (0 < (SX k).length))) ∧ w'' = W4.drewN m) := fun m => text_any (hA.s.later (below_drewN hbw2 m)) (by omega) k (by omega)
                  have H9 : Hid (∀ m, Calls Yba.prog 9 #[.slice (F' k).ta (TX k).length (F' k).tc, .slice (TA k) (TX k).length (TC k)] (W4.drewN m) fun e w'' => e = .returned (.bool true) ∧ ∃ q, w'' = (W4.drewN m).drewN q) := fun m => eq8_same (o1.drewN m).sl ((hA.t.rows k).later (below_drewN hbw2 m)) z1
                  have H8 : Hid (∀ m, Calls Yba.prog 8 #[.slice (F' k).na (NX k).length (F' k).nc, .slice (NA k) (NX k).length (NC k)] (W4.drewN m) fun e w'' => e = .returned (.bool true) ∧ ∃ q, w'' = (W4.drewN m).drewN q) := fun m => eq64_same (o2.drewN m).sl ((hA.n.rows k).later (below_drewN hbw2 m)) z2
                  have H10 : Hid (∀ m, Calls Yba.prog 10 #[.slice (F' k).sa (SX k).length (F' k).sc, .slice (SA k) (SX k).length (SC k)] (W4.drewN m) fun e w'' => e = .returned (.bool true) ∧ ∃ q, w'' = (W4.drewN m).drewN q) := fun m => eqs_same (o3.drewN m).sl ((hA.s.rows k).later (below_drewN hbw2 m)) z3
                  clear o1 o2 o3
                  go_cut [251] from 208 to 250 (fun c wx => c = .bool false ∧ Below W3.heap.size W3 wx)
                  case first => as_aux_lemma =>
                    go_quiet (first | (go_at_call 6; exact Calls.quiet_of_same (H6.out _)) | (go_at_call 9; exact Calls.quiet_of (H9.out _)) | (go_at_call 4; exact Calls.quiet_of_same (H4.out _)) | (go_at_call 8; exact Calls.quiet_of (H8.out _)) | (go_at_call 5; exact Calls.quiet_of_same (H5.out _)) | (go_at_call 10; exact Calls.quiet_of (H10.out _)) | fail)
                    go_wp2_with fail
                    go_meet
                    case rel => exact ⟨by simp, below_drewN hbr2 _⟩
                  case rest =>
                    obtain ⟨rfl, hbr3⟩ := hcut
                    clear v0 v1 v2 v3 hck4 H4 H5 H6 H8 H9 H10 hbw2 hbr2
                    go_wp2_with fail
                    go_roundg (tn - (k + 1))
                    case measure => omega
                    case rel => exact ⟨k + 1, by omega, rfl, by simp, hbr3⟩
                · have d0 : decide ((k : Int) < (tn : Int)) = false := by simp; omega
                  obtain rfl : k = tn := by omega
                  go_wp2_with fail
                  go_meet
                  case rel => exact hbr
            case rest =>
              have hbr := hcut
              clear hcut hq
              have y8 : wc.cell? ⟨T, 8, none⟩ = some (.pointer kp) := ((hT2.below hbc lT).below hbr (by have := hbc.size; omega)).cellOf rfl
              have x8 : wc.cell? ⟨T', 8, none⟩ = some (.pointer kp') := (hTb'.below hbr hTb'.lt).cellOf rfl
              go_upto_if 253 with fail
              go_cut [253] from 253 to 297 (fun _ wx => Below W3.heap.size W3 wx)
              case first => as_aux_lemma =>
                cases hasKeys with
                | false =>
                  obtain rfl := hk0' rfl
                  go_wp2_with fail
                  go_meet
                  case rel => exact hbr
                | true =>
                  obtain ⟨K, qq, ka1, kc1, rfl, hKN, hKb, hKo⟩ := hk1 rfl
                  obtain ⟨K', qq', ka2, kc2, rfl, hKN', hKb', hKo'⟩ := hk1' rfl
                  have lK := hKb.lt
                  have nK : K' ≠ K := by omega
                  have hbk := hbc.trans (hbr.mono hbc.size)
                  have hKr := hKb.below hbk lK
                  have hKr' := hKb'.below hbr hKb'.lt
                  obtain ⟨i51, hi51, hs51⟩ := size_of size51
                  have hpe : ∀ m, (binOp .eql 44 (.pointer (some ⟨K', 0, none⟩)) (.pointer (some ⟨K, 0, none⟩))).run Yba.prog (wc.drewN m) = .ok (.bool false) (wc.drewN m) := fun m => run_eql_ptr_other (P := Yba.prog) (wc.drewN m) (a := ⟨K', 0, none⟩) (b := ⟨K, 0, none⟩) under44 hi51 (by omega) (by simp [nK]) (hKr'.drewN m) (hKr.drewN m)
                  have v1 : wc.cell? ⟨K', 1, none⟩ = some (.slice ka2 kn kc2) := hKr'.cellOf rfl
                  have v2 : wc.cell? ⟨K', 2, none⟩ = some (.int .i64 count) := hKr'.cellOf rfl
                  have hbw := hb3.trans (hbr.mono hb3.size)
                  have H11 : Hid (∀ m, Calls Yba.prog 11 #[.slice ka2 kn kc2, .slice ka kn kc] (wc.drewN m) fun e w'' => e = .returned (.bool true) ∧ ∃ q, w'' = (wc.drewN m).drewN q) := fun m => eq32_same ((hKo'.below hbr).drewN m).sl (hA.k.later (below_drewN hbw m)) h4
                  go_upto_region 36 with fail
                  go_quiet (first | (go_at_call 11; exact Calls.quiet_of (H11.out _)) | fail)
                  go_wp2_with fail
                  go_meet
                  case rel => exact below_drewN hbr _
              case rest =>
                have hbr2 := hcut
                have hm0 : MSt W2 wc T' (tab name qk n g' tn tn kp' 0 first ab bn cb) g' tn F' (fun j => (TX j).length) (fun j => (NX j).length) (fun j => (SX j).length) 140737488351232 hasKeys kp' kn := ⟨hTb'.below hbr2 hTb'.lt, (hcs'.below hbr2).sh (fun j _ => hA.short j), fun e => ((hk1' e).below hbr2).sh, hbc.trans (hbr2.mono hbc.size)⟩
                clear hcut x8 y8 hbr
                have x7' : wc.cell? ⟨T', 7, none⟩ = some (.slice (some ⟨g', 0, none⟩) tn tn) := hm0.tab.cellOf rfl
                go_upto_block 6 with fail
                go_cut [304] from 298 to 381 (fun _ wx => Blk wx T' 46 (tab name qk n g' tn tn kp' 0 first ab bn cb) ∧ (hasKeys = true → KeySh wx W2.heap.size kp' kn) ∧ Below W2.heap.size W2 wx)
                case first => as_aux_lemma =>
                  clear hbr2 hcs' hTb' hk1' hk0' x7 hk1 hk0 hcs2 hob2
                  go_wp2_with fail
                  go_loopg [304] tn (fun g i wr => ∃ k : Nat, k ≤ tn ∧ g = tn - k ∧ i = .int .i64 k ∧ MSt W2 wr T' (tab name qk n g' tn tn kp' 0 first ab bn cb) g' tn F' (fun j => (TX j).length) (fun j => (NX j).length) (fun j => (SX j).length) (140737488351232 + k * 1024) hasKeys kp' kn)
                  case atStart => exact ⟨0, Nat.zero_le _, rfl, rfl, hm0⟩
                  case round =>
                    obtain ⟨k, hk, rfl, rfl, hm⟩ := hrel
                    by_cases hlt : k < tn
                    · have d0 : decide ((k : Int) < (tn : Int)) = true := by simp; omega
                      have hk0 : (0 : Int) ≤ (k : Int) := Int.natCast_nonneg _
                      have hk1 : (k : Int) < (tn : Int) := by omega
                      obtain ⟨z1, z2, z3⟩ := hsz k hlt
                      have x7r : wr.cell? ⟨T', 7, none⟩ = some (.slice (some ⟨g', 0, none⟩) tn tn) := hm.tab.cellOf rfl
                      obtain ⟨⟨b0, p0⟩, f0, p1, p2, p3⟩ := hm.cols.cells hlt
                      clear p1 p2 p3
                      go_upto_region 45 with fail
                      have hm := hm.text hg' k (!b0)
                      clear p0 f0 x7r
                      generalize wr.setCell ⟨g', k * 4, none⟩ (.bool !b0) = wa at *
                      have p1 := hm.cols.cells hlt
                      obtain ⟨_, _, c1, c2, c3⟩ := p1
                      go_upto_block 8 with fail
                      go_cut [327] from 322 to 339 (fun _ wx => MSt W2 wx T' (tab name qk n g' tn tn kp' 0 first ab bn cb) g' tn F' (fun j => (TX j).length) (fun j => (NX j).length) (fun j => (SX j).length) (140737488351232 + k * 1024) hasKeys kp' kn)
                      case first => as_aux_lemma =>
                        clear c1 c2 c3
                        go_wp2_with fail
                        go_loopg [327] (TX k).length (fun g i wr => ∃ j : Nat, j ≤ (TX k).length ∧ g = (TX k).length - j ∧ i = .int .i64 j ∧ MSt W2 wr T' (tab name qk n g' tn tn kp' 0 first ab bn cb) g' tn F' (fun j => (TX j).length) (fun j => (NX j).length) (fun j => (SX j).length) (140737488351232 + k * 1024) hasKeys kp' kn)
                        case atStart => exact ⟨0, Nat.zero_le _, rfl, rfl, hm⟩
                        case round =>
                          obtain ⟨j, hj, rfl, rfl, hmj⟩ := hrel
                          by_cases hjl : j < (TX k).length
                          · have e0 : decide ((j : Int) < (((TX k).length : Nat) : Int)) = true := by simp; omega
                            have hj0 : (0 : Int) ≤ (j : Int) := Int.natCast_nonneg _
                            have hj1 : (j : Int) < (((TX k).length : Nat) : Int) := by omega
                            obtain ⟨_, _, c1, c2, c3⟩ := hmj.cols.cells hlt
                            obtain ⟨gb, cur, v, hta, hgN, hgb, hv, hfz, z, rfl⟩ := (hmj.cols.s8 k hlt).cell hjl
                            rw [hta] at c1
                            go_wp2_with fail
                            go_roundg ((TX k).length - (j + 1))
                            case measure => omega
                            case rel => exact ⟨j + 1, by omega, rfl, by simp, hmj.store hgb hgN (by decide) (by decide) (by decide) (by decide) (fun _ => ⟨_, rfl⟩) (fun q => absurd q (by decide)) (fun q => absurd q (by decide)) j⟩
                          · have e0 : decide ((j : Int) < (((TX k).length : Nat) : Int)) = false := by simp; omega
                            go_wp2_with fail
                            go_meet
                            case rel => exact hmj
                      case rest =>
                        have hm := hcut
                        clear hcut c1 c2 c3
                        have p2 := hm.cols.cells hlt
                        obtain ⟨_, _, c1, c2, c3⟩ := p2
                        go_upto_block 10 with fail
                        go_cut [345] from 340 to 357 (fun _ wx => MSt W2 wx T' (tab name qk n g' tn tn kp' 0 first ab bn cb) g' tn F' (fun j => (TX j).length) (fun j => (NX j).length) (fun j => (SX j).length) (140737488351232 + k * 1024) hasKeys kp' kn)
                        case first => as_aux_lemma =>
                          clear c1 c2 c3
                          go_wp2_with fail
                          go_loopg [345] (NX k).length (fun g i wr => ∃ j : Nat, j ≤ (NX k).length ∧ g = (NX k).length - j ∧ i = .int .i64 j ∧ MSt W2 wr T' (tab name qk n g' tn tn kp' 0 first ab bn cb) g' tn F' (fun j => (TX j).length) (fun j => (NX j).length) (fun j => (SX j).length) (140737488351232 + k * 1024) hasKeys kp' kn)
                          case atStart => exact ⟨0, Nat.zero_le _, rfl, rfl, hm⟩
                          case round =>
                            obtain ⟨j, hj, rfl, rfl, hmj⟩ := hrel
                            by_cases hjl : j < (NX k).length
                            · have e0 : decide ((j : Int) < (((NX k).length : Nat) : Int)) = true := by simp; omega
                              have hj0 : (0 : Int) ≤ (j : Int) := Int.natCast_nonneg _
                              have hj1 : (j : Int) < (((NX k).length : Nat) : Int) := by omega
                              obtain ⟨_, _, c1, c2, c3⟩ := hmj.cols.cells hlt
                              obtain ⟨gb, cur, v, hta, hgN, hgb, hv, hfz, z, rfl⟩ := (hmj.cols.s64 k hlt).cell hjl
                              rw [hta] at c2
                              go_wp2_with fail
                              go_roundg ((NX k).length - (j + 1))
                              case measure => omega
                              case rel => exact ⟨j + 1, by omega, rfl, by simp, hmj.store hgb hgN (by decide) (by decide) (by decide) (by decide) (fun q => absurd q (by decide)) (fun _ => ⟨_, rfl⟩) (fun q => absurd q (by decide)) j⟩
                            · have e0 : decide ((j : Int) < (((NX k).length : Nat) : Int)) = false := by simp; omega
                              go_wp2_with fail
                              go_meet
                              case rel => exact hmj
                        case rest =>
                          have hm := hcut
                          clear hcut c1 c2 c3
                          obtain ⟨_, _, c1, c2, c3⟩ := hm.cols.cells hlt
                          go_wp2_with fail
                          clear c1 c2 c3
                          go_loopg [363] (SX k).length (fun g i wr => ∃ j : Nat, j ≤ (SX k).length ∧ g = (SX k).length - j ∧ i = .int .i64 j ∧ MSt W2 wr T' (tab name qk n g' tn tn kp' 0 first ab bn cb) g' tn F' (fun j => (TX j).length) (fun j => (NX j).length) (fun j => (SX j).length) (140737488351232 + k * 1024 + j) hasKeys kp' kn)
                          case atStart => exact ⟨0, Nat.zero_le _, rfl, rfl, hm⟩
                          case round =>
                            obtain ⟨j, hj, rfl, rfl, hmj⟩ := hrel
                            by_cases hjl : j < (SX k).length
                            · have e0 : decide ((j : Int) < (((SX k).length : Nat) : Int)) = true := by simp; omega
                              have hj0 : (0 : Int) ≤ (j : Int) := Int.natCast_nonneg _
                              have hj1 : (j : Int) < (((SX k).length : Nat) : Int) := by omega
                              go_upto_region 58 with fail
                              have hmd := hmj.drew
                              obtain ⟨_, _, _, _, c3⟩ := hmd.cols.cells hlt
                              obtain ⟨gb, cur, v, hta, hgN, hgb, hv, hfz, s, rfl, hs⟩ := (hmd.cols.ss k hlt).cell hjl
                              rw [hta] at c3
                              have hle : s.size + 1 ≤ 9223372036854775807 := by omega
                              have hnle : ¬ (9223372036854775807 < s.size + 1) := by omega
                              have hadd : ∀ W : World, (Op.stringOp .add s ⟨#[120]⟩).run Yba.prog W = .ok (.string (s ++ ⟨#[120]⟩)) W := fun W => run_string_add_sum W s ⟨#[120]⟩ hle
                              have ngb : gb ≠ g' := by obtain ⟨cur2, hb2, _⟩ := hmd.cols.blk; exact hgb.ne hb2 (by decide)
                              have c3' : (wr.drew.setCell ⟨gb, j, none⟩ (.string (s ++ ⟨#[120]⟩))).cell? ⟨g', k * 4 + 3, none⟩ = some (.slice (some ⟨gb, 0, none⟩) (SX k).length (F' k).sc) := (World.cell?_setCell_far _ _ _ _ ngb).trans c3
                              have c3w : wr.cell? ⟨g', k * 4 + 3, none⟩ = some (.slice (some ⟨gb, 0, none⟩) (SX k).length (F' k).sc) := c3
                              have hvw : wr.cell? ⟨gb, j, none⟩ = some (.string s) := hv
                              have hfw : wr.frozen? ⟨gb, j, none⟩ = false := hfz
                              clear c3 c3' hv hfz
                              go_region
                              have hgbw : Blk wr gb 9 cur := hgb
                              have hsz1 : (s ++ (⟨#[120]⟩ : ByteArray)).size = s.size + 1 := by rw [ByteArray.size_append]; rfl
                              all_goals
                                go_wp2_with fail
                                go_roundg ((SX k).length - (j + 1))
                                case measure => omega
                                case rel => exact ⟨j + 1, by omega, rfl, by simp, ((hmj.raise (M' := 140737488351232 + k * 1024 + (j + 1)) (by omega)).store hgbw hgN (by decide) (by decide) (by decide) (by decide) (fun q => absurd q (by decide)) (fun q => absurd q (by decide)) (fun _ => ⟨_, rfl, by omega⟩) j).drew⟩
                            · have e0 : decide ((j : Int) < (((SX k).length : Nat) : Int)) = false := by simp; omega
                              go_wp2_with fail
                              go_roundg (tn - (k + 1))
                              case measure => omega
                              case rel => exact ⟨k + 1, by omega, rfl, by simp, hmj.raise (by omega)⟩
                    · have d0 : decide ((k : Int) < (tn : Int)) = false := by simp; omega
                      go_wp2_with fail
                      go_meet
                      case rel => exact ⟨hm.tab, hm.key, hm.low⟩
                case rest =>
                  obtain ⟨hTm, hkm, hlow⟩ := hcut
                  clear hm0 x7' hbr2
                  have x6 := hTm.cellOf (j := 6) rfl
                  have f6 := hTm.frozen 6
                  go_upto_region 62 with fail
                  have hT5 : Blk (wc.setCell ⟨T', 6, none⟩ (.int .i64 (wrap64 (n + 1)))) T' 46 (tab name qk (wrap64 (n + 1)) g' tn tn kp' 0 first ab bn cb) := hTm.set 6 _
                  have hk5 : hasKeys = true → KeySh (wc.setCell ⟨T', 6, none⟩ (.int .i64 (wrap64 (n + 1)))) W2.heap.size kp' kn := fun e => (hkm e).set hTm (by decide) (fun q => absurd q (by decide)) 6
                  have hlow5 := hlow.setCell (p := ⟨T', 6, none⟩) hT' (.int .i64 (wrap64 (n + 1)))
                  generalize wc.setCell ⟨T', 6, none⟩ (.int .i64 (wrap64 (n + 1))) = W5 at *
                  clear hTm hkm hlow x6 f6
                  have x8 : W5.cell? ⟨T', 8, none⟩ = some (.pointer kp') := hT5.cellOf rfl
                  go_cut [392] from 388 to 391 (fun c wx => c = .bool hasKeys ∧ W5 = wx)
                  case first => as_aux_lemma =>
                    cases hasKeys with
                    | false =>
                      obtain rfl := hk0' rfl
                      go_wp2_with fail
                      go_meet
                      case rel => exact ⟨rfl, rfl⟩
                    | true =>
                      obtain ⟨K, q5, a5, c5, cnt, rfl, _⟩ := hk5 rfl
                      go_wp2_with fail
                      go_meet
                      case rel => exact ⟨rfl, rfl⟩
                  case rest =>
                    obtain ⟨rfl, rfl⟩ := hcut
                    go_upto_if 392 with fail
                    go_cut [392] from 388 to 424 (fun _ wx => (∃ n1, Blk wx T' 46 (tab name qk n1 g' tn tn kp' 0 first ab bn cb)) ∧ Below W2.heap.size W2 wx)
                    case first => as_aux_lemma =>
                      clear hcs' hTb' hk1' hk1 hk0 hcs2 hob2 x7
                      cases hasKeys with
                      | false =>
                        go_wp2_with fail
                        go_meet
                        case rel => exact ⟨⟨_, hT5⟩, hlow5⟩
                      | true =>
                        obtain ⟨K, q5, a5, c5, cnt, rfl, hKN, hKb, hKs⟩ := hk5 rfl
                        have v1 : W5.cell? ⟨K, 1, none⟩ = some (.slice a5 kn c5) := hKb.cellOf rfl
                        go_wp2_with fail
                        go_loopg [401] kn (fun g i wr => ∃ j : Nat, j ≤ kn ∧ g = kn - j ∧ i = .int .i64 j ∧ Blk wr T' 46 (tab name qk (wrap64 (n + 1)) g' tn tn (some ⟨K, 0, none⟩) 0 first ab bn cb) ∧ Blk wr K 51 #[.slice (some ⟨q5, 0, none⟩) 1 1, .slice a5 kn c5, .int .i64 cnt, .int .u64 0] ∧ Sh wr W2.heap.size 58 (OkI .u32) a5 kn ∧ Below W2.heap.size W2 wr)
                        case atStart => exact ⟨0, Nat.zero_le _, rfl, rfl, hT5, hKb, hKs, hlow5⟩
                        case round =>
                          obtain ⟨j, hj, rfl, rfl, hTr, hKr, hSr, hlr⟩ := hrel
                          have x8r : wr.cell? ⟨T', 8, none⟩ = some (.pointer (some ⟨K, 0, none⟩)) := hTr.cellOf rfl
                          by_cases hjl : j < kn
                          · have e0 : decide ((j : Int) < (kn : Int)) = true := by simp; omega
                            have hj0 : (0 : Int) ≤ (j : Int) := Int.natCast_nonneg _
                            have hj1 : (j : Int) < (kn : Int) := by omega
                            obtain ⟨gb, cur, v, rfl, hgN, hgb, hv, hfz, z, rfl⟩ := hSr.cell hjl
                            have v1r : wr.cell? ⟨K, 1, none⟩ = some (.slice (some ⟨gb, 0, none⟩) kn c5) := hKr.cellOf rfl
                            go_wp2_with fail
                            go_roundg (kn - (j + 1))
                            case measure => omega
                            case rel => exact ⟨j + 1, by omega, rfl, by simp, hTr.setOther (a := ⟨gb, j, none⟩) (hTr.ne hgb (by decide)) _, hKr.setOther (a := ⟨gb, j, none⟩) (hKr.ne hgb (by decide)) _, hSr.set hgb (fun _ => ⟨_, rfl⟩) j, hlr.setCell (p := ⟨gb, j, none⟩) hgN _⟩
                          · have e0 : decide ((j : Int) < (kn : Int)) = false := by simp; omega
                            have v2r : wr.cell? ⟨K, 2, none⟩ = some (.int .i64 cnt) := hKr.cellOf rfl
                            have f2r := hKr.frozen 2
                            go_wp2_with fail
                            go_meet
                            case rel => exact ⟨⟨_, hTr.setOther (a := ⟨K, 2, none⟩) (hTr.ne hKr (by decide)) _⟩, hlr.setCell (p := ⟨K, 2, none⟩) hKN _⟩
                    case rest =>
                      obtain ⟨⟨n1, hT6⟩, hlow6⟩ := hcut
                      clear hT5 hk5 hlow5 x8
                      have x9 := hT6.cellOf (j := 9) rfl
                      have f9 := hT6.frozen 9
                      go_upto_region 70 with fail
                      have hlow7 := hlow6.setCell (p := ⟨T', 9, none⟩) hT' (.int .i64 7)
                      clear x9 f9 hT6 hlow6
                      generalize wc.setCell ⟨T', 9, none⟩ (.int .i64 7) = W7 at *
                      have y6 : W7.cell? ⟨T, 6, none⟩ = some (.int .i64 n) := (hT2.below hlow7 lT).cellOf rfl
                      have y7 : W7.cell? ⟨T, 7, none⟩ = some (.slice (some ⟨w.heap.size, 0, none⟩) tn tn) := (hT2.below hlow7 lT).cellOf rfl
                      have y9 : W7.cell? ⟨T, 9, none⟩ = some (.int .i64 readers) := (hT2.below hlow7 lT).cellOf rfl
                      go_upto_block 16 with fail
                      clear y6 y7 y9 hcs' hTb' hk1' hk0' x7 hob2 hbc hb3
                      go_cut [456] from 425 to 501 (fun _ wx => Below W2.heap.size W2 wx)
                      case first => as_aux_lemma =>
                        go_wp2_with fail
                        go_loopg [456] tn (fun g i wr => ∃ k : Nat, k ≤ tn ∧ g = tn - k ∧ i = .int .i64 k ∧ Below W2.heap.size W2 wr)
                        case atStart => exact ⟨0, Nat.zero_le _, rfl, rfl, hlow7⟩
                        case round =>
                          obtain ⟨k, hk, rfl, rfl, hbr⟩ := hrel
                          by_cases hlt : k < tn
                          · obtain ⟨b, off, rfl, hbl, hc⟩ := hA.t.cells (by omega)
                            have d0 : decide ((k : Int) < (tn : Int)) = true := by simp; omega
                            have hk0 : (0 : Int) ≤ (k : Int) := Int.natCast_nonneg _
                            have hk1 : (k : Int) < (tn : Int) := by omega
                            have x7r : wr.cell? ⟨T, 7, none⟩ = some (.slice (some ⟨w.heap.size, 0, none⟩) tn tn) := (hT2.below hbr lT).cellOf rfl
                            obtain ⟨z1, z2, z3⟩ := hsz k hlt
                            have hcsr := hcs2.below hbr
                            obtain ⟨p0, p1, p2, p3⟩ := hcsr.cells hlt
                            have hownr := hcsr.own k hlt
                            have hbw := hbel2.trans (hbr.mono hbel2.size)
                            have hckr : wr.cell? ⟨b, off + k, none⟩ = some (.slice (TA k) (TX k).length (TC k)) := (hbw.cell (p := ⟨b, off + k, none⟩) hbl).trans (hc k hlt)
                            clear hc
                            go_upto_region 76 with fail
                            dsimp only at p0 p1 p2 p3
                            have hb2 := Blk.new wr 34 #[Value.bool (decide (0 < (SX k).length)), Value.slice (F k).ta (TX k).length (F k).tc, Value.slice (F k).na (NX k).length (F k).nc, Value.slice (F k).sa (SX k).length (F k).sc]
                            have ho2 := hownr.alloc (Obj.cells #[Value.bool (decide (0 < (SX k).length)), Value.slice (F k).ta (TX k).length (F k).tc, Value.slice (F k).na (NX k).length (F k).nc, Value.slice (F k).sa (SX k).length (F k).sc] 34)
                            have hbw2 := hbw.alloc hbw.size (Obj.cells #[Value.bool (decide (0 < (SX k).length)), Value.slice (F k).ta (TX k).length (F k).tc, Value.slice (F k).na (NX k).length (F k).nc, Value.slice (F k).sa (SX k).length (F k).sc] 34)
                            have hbr2 := hbr.alloc hbr.size (Obj.cells #[Value.bool (decide (0 < (SX k).length)), Value.slice (F k).ta (TX k).length (F k).tc, Value.slice (F k).na (NX k).length (F k).nc, Value.slice (F k).sa (SX k).length (F k).sc] 34)
                            generalize wr.alloc (Obj.cells #[Value.bool (decide (0 < (SX k).length)), Value.slice (F k).ta (TX k).length (F k).tc, Value.slice (F k).na (NX k).length (F k).nc, Value.slice (F k).sa (SX k).length (F k).sc] 34) = W4 at *
                            have v0 := hb2.cellOf (j := 0) rfl
                            have v1 := hb2.cellOf (j := 1) rfl
                            have v2 := hb2.cellOf (j := 2) rfl
                            have v3 := hb2.cellOf (j := 3) rfl
                            have hck4 : W4.cell? ⟨b, off + k, none⟩ = some (.slice (TA k) (TX k).length (TC k)) := (hbw2.cell (p := ⟨b, off + k, none⟩) hbl).trans ((hbw.cell (p := ⟨b, off + k, none⟩) hbl).symm.trans hckr)
                            clear p0 p1 p2 p3 hckr x7r hownr hcsr hb2
                            generalize wr.heap.size = bw at *
                            obtain ⟨o1, o2, o3⟩ := ho2
                            have H4 : Hid (∀ m, Calls Yba.prog 4 #[.slice na nn nc, .int .i64 k] (W4.drewN m) fun e w'' => e = .returned (.slice (NA k) (NX k).length (NC k)) ∧ w'' = W4.drewN m) := fun m => nums_any (hA.n.later (below_drewN hbw2 m)) (by omega) k (by omega)
                            have H5 : Hid (∀ m, Calls Yba.prog 5 #[.slice sa sn sc, .int .i64 k] (W4.drewN m) fun e w'' => e = .returned (.slice (SA k) (SX k).length (SC k)) ∧ w'' = W4.drewN m) := fun m => strs_any (hA.s.later (below_drewN hbw2 m)) (by omega) k (by omega)
                            have H6 : Hid (∀ m, Calls Yba.prog 6 #[.slice sa sn sc, .int .i64 k] (W4.drewN m) fun e w'' => e = .returned (.bool (decide (0 < (SX k).length))) ∧ w'' = W4.drewN m) := fun m => text_any (hA.s.later (below_drewN hbw2 m)) (by omega) k (by omega)
                            have H9 : Hid (∀ m, Calls Yba.prog 9 #[.slice (F k).ta (TX k).length (F k).tc, .slice (TA k) (TX k).length (TC k)] (W4.drewN m) fun e w'' => e = .returned (.bool true) ∧ ∃ q, w'' = (W4.drewN m).drewN q) := fun m => eq8_same (o1.drewN m).sl ((hA.t.rows k).later (below_drewN hbw2 m)) z1
                            have H8 : Hid (∀ m, Calls Yba.prog 8 #[.slice (F k).na (NX k).length (F k).nc, .slice (NA k) (NX k).length (NC k)] (W4.drewN m) fun e w'' => e = .returned (.bool true) ∧ ∃ q, w'' = (W4.drewN m).drewN q) := fun m => eq64_same (o2.drewN m).sl ((hA.n.rows k).later (below_drewN hbw2 m)) z2
                            have H10 : Hid (∀ m, Calls Yba.prog 10 #[.slice (F k).sa (SX k).length (F k).sc, .slice (SA k) (SX k).length (SC k)] (W4.drewN m) fun e w'' => e = .returned (.bool true) ∧ ∃ q, w'' = (W4.drewN m).drewN q) := fun m => eqs_same (o3.drewN m).sl ((hA.s.rows k).later (below_drewN hbw2 m)) z3
                            clear o1 o2 o3
                            go_cut [500] from 457 to 499 (fun c wx => c = .bool false ∧ Below W2.heap.size W2 wx)
                            case first => as_aux_lemma =>
                              go_quiet (first | (go_at_call 6; exact Calls.quiet_of_same (H6.out _)) | (go_at_call 9; exact Calls.quiet_of (H9.out _)) | (go_at_call 4; exact Calls.quiet_of_same (H4.out _)) | (go_at_call 8; exact Calls.quiet_of (H8.out _)) | (go_at_call 5; exact Calls.quiet_of_same (H5.out _)) | (go_at_call 10; exact Calls.quiet_of (H10.out _)) | fail)
                              go_wp2_with fail
                              go_meet
                              case rel => exact ⟨by simp, below_drewN hbr2 _⟩
                            case rest =>
                              obtain ⟨rfl, hbr3⟩ := hcut
                              clear v0 v1 v2 v3 hck4 H4 H5 H6 H8 H9 H10 hbw2 hbr2
                              go_wp2_with fail
                              go_roundg (tn - (k + 1))
                              case measure => omega
                              case rel => exact ⟨k + 1, by omega, rfl, by simp, hbr3⟩
                          · have d0 : decide ((k : Int) < (tn : Int)) = false := by simp; omega
                            obtain rfl : k = tn := by omega
                            go_wp2_with fail
                            go_meet
                            case rel => exact hbr
                      case rest =>
                        have hbr := hcut
                        clear hcut
                        cases hasKeys with
                        | false =>
                          go_wp2_with fail
                          exact bodyPost_ret (v := .bool true) (by simp [results]) rfl ⟨rfl, hbel2.trans (hbr.mono hbel2.size)⟩
                        | true =>
                          obtain ⟨K, qq, ka1, kc1, rfl, hKN, hKb, hKo⟩ := hk1 rfl
                          have y8 : wc.cell? ⟨T, 8, none⟩ = some (.pointer (some ⟨K, 0, none⟩)) := (hT2.below hbr lT).cellOf rfl
                          have hKr := hKb.below hbr hKb.lt
                          have v1 : wc.cell? ⟨K, 1, none⟩ = some (.slice ka1 kn kc1) := hKr.cellOf rfl
                          have v2 : wc.cell? ⟨K, 2, none⟩ = some (.int .i64 count) := hKr.cellOf rfl
                          have hbw := hbel2.trans (hbr.mono hbel2.size)
                          have H11 : Hid (Calls Yba.prog 11 #[.slice ka1 kn kc1, .slice ka kn kc] wc fun e w'' => e = .returned (.bool true) ∧ ∃ q, w'' = wc.drewN q) := eq32_same (hKo.below hbr).sl (hA.k.later hbw) h4
                          go_wp2_with (first | (go_at_call 11; refine H11.out.mono ?_; rintro e w' ⟨rfl, q, rfl⟩) | fail)
                          exact bodyPost_ret (v := .bool true) (by simp [results]) rfl ⟨rfl, below_drewN hbw q⟩
end Go.Proofs.Ybulktm
