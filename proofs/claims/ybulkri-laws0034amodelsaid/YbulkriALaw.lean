/-
  LawS0034AModel: the law itself, walked, over CheckLocks' contract.
-/
import Derived.Test.YbulkriALawAt
import Derived.Test.YbulkriAIter
import Derived.Test.YbulkriAMake
import Derived.Deep.CutRange
namespace Go.Proofs.Ybulkri.A
open Go.RowKit
set_option linter.unusedVariables false
set_option linter.unusedSimpArgs false

/-- how the steps lie in memory -/
def Steps3 (w : World) (B : Nat) (ao : Option Addr) (len : Nat) (l : List (Int × Int × Int)) : Prop :=
  l.length = len ∧ (∀ s ∈ l, (0 ≤ s.1 ∧ s.1 ≤ 255) ∧ (0 ≤ s.2.1 ∧ s.2.1 ≤ 255) ∧ 0 ≤ s.2.2 ∧ s.2.2 ≤ 255) ∧
  (0 < len → ∃ b off, ao = some ⟨b, off, none⟩ ∧ b < B ∧ ∀ i, i < len → w.cell? ⟨b, off + i * 3, none⟩ = some (.int .u8 (l.getD i (0, 0, 0)).1) ∧ w.cell? ⟨b, off + i * 3 + 1, none⟩ = some (.int .u8 (l.getD i (0, 0, 0)).2.1) ∧ w.cell? ⟨b, off + i * 3 + 2, none⟩ = some (.int .u8 (l.getD i (0, 0, 0)).2.2))

/-- CheckLocks' contract -/
def ChecksAs : Prop := ∀ (W : World) (S go co : Nat) (at' : Option Addr) (ct : Nat) (ai : Option Addr) (ci : Nat) (ops : List (Int × Int × Int)) (nT nX : Nat), SchR W W.heap.size S go co at' ct ai ci ops nT nX → Valid ops nT nX → nT ≤ 4 → nX ≤ 3 → ops.length ≤ 1024 →
  Calls Yba.prog 6 #[.pointer (some ⟨S, 0, none⟩)] W fun e w' => e = .returned (.agg (fcells (mrun nT nX ops ops.length).f)) ∧ Below W.heap.size W w'

theorem info34b : (Yba.prog.info? 34).map (fun i => (i.zero, i.size, i.bytes)) = some (some (.agg #[.int .u8 0, .int .i64 0, .int .i64 0]), 3, 24) := by kernel_rfl

theorem make_ops (M : Nat) (hM : M ≤ 100000) : ∃ C : Array Value, C.size = M * 3 ∧ ∀ w : World, (Instr.makeSlice 28 (.int .i64 0) (.int .i64 (M : Int))).run Yba.prog w = .ok (.slice (some ⟨w.heap.size, 0, none⟩) 0 M) (w.alloc (.cells C 34)) := by
  obtain ⟨i, hi, h0, h1, h2⟩ := info_parts info34b
  refine ⟨madeCells (Value.agg #[.int .u8 0, .int .i64 0, .int .i64 0]).cells (M * 3), size_madeCells _ _, fun w => ?_⟩
  have := run_make (P := Yba.prog) w 28 34 i _ Yba.underlying28 hi h0 .i64 .i64 (0 : Int) (M : Int) (by omega) (by omega) (by rw [h2]; omega) (by omega)
  rw [this, h1]
  rfl

theorem kcells_get {k : Nat} (h : k < 7) : kcells[k]? = some (.int .u8 ((k : Int) + 1)) := by
  match k, h with
  | 0, _ => rfl
  | 1, _ => rfl
  | 2, _ => rfl
  | 3, _ => rfl
  | 4, _ => rfl
  | 5, _ => rfl
  | 6, _ => rfl

/-- the three first variables -/
structure L3 (w : World) (N : Nat) (tI xI : Nat → Int) (W : World) : Prop where
  k : Blk W N 24 kcells
  t : Blk W (N + 1) 25 (icells tI 4)
  x : Blk W (N + 1 + 1) 26 (icells xI 3)
  b : Below N w W
  z : W.heap.size = N + 1 + 1 + 1

theorem L3.start (w : World) : L3 w w.heap.size (fun _ => 0) (fun _ => 0) (((w.alloc (.cells #[.int .u8 1, .int .u8 2, .int .u8 3, .int .u8 4, .int .u8 5, .int .u8 6, .int .u8 7] 24)).alloc (.cells #[.int .i64 0, .int .i64 0, .int .i64 0, .int .i64 0] 25)).alloc (.cells #[.int .i64 0, .int .i64 0, .int .i64 0] 26)) := by
  refine ⟨((Blk.new w 24 kcells).alloc _).alloc _, ?_, ?_, (((Below.refl _ w).alloc (Nat.le_refl _) _).alloc (by simp) _).alloc (by simp; omega) _, by simp⟩
  · have := (Blk.new (w.alloc (.cells kcells 24)) 25 (icells (fun _ => 0) 4)).alloc (.cells #[.int .i64 0, .int .i64 0, .int .i64 0] 26)
    rw [World.size_alloc] at this
    exact this
  · have := Blk.new ((w.alloc (.cells kcells 24)).alloc (.cells #[.int .i64 0, .int .i64 0, .int .i64 0, .int .i64 0] 25)) 26 (icells (fun _ => 0) 3)
    rw [World.size_alloc, World.size_alloc] at this
    exact this
theorem L3.setT {w W : World} {N : Nat} {tI xI : Nat → Int} (h : L3 w N tI xI W) (j : Nat) (v : Int) : L3 w N (putI tI j v) xI (W.setCell ⟨N + 1, j, none⟩ (.int .i64 v)) :=
  ⟨h.k.setOther (by simp) _, by have := h.t.set j (.int .i64 v); rwa [icells_set] at this, h.x.setOther (by simp) _, h.b.setCell (p := ⟨N + 1, j, none⟩) (by simp) _, by rw [← h.z]; simp [World.setCell]⟩
theorem L3.setX {w W : World} {N : Nat} {tI xI : Nat → Int} (h : L3 w N tI xI W) (j : Nat) (v : Int) : L3 w N tI (putI xI j v) (W.setCell ⟨N + 1 + 1, j, none⟩ (.int .i64 v)) :=
  ⟨h.k.setOther (by simp <;> omega) _, h.t.setOther (by simp) _, by have := h.x.set j (.int .i64 v); rwa [icells_set] at this, h.b.setCell (p := ⟨N + 1 + 1, j, none⟩) (by simp <;> omega) _, by rw [← h.z]; simp [World.setCell]⟩
theorem L3.congr {w W : World} {N : Nat} {tI xI tI' xI' : Nat → Int} (h : L3 w N tI xI W) (h1 : ∀ j, j < 4 → tI j = tI' j) (h2 : ∀ j, j < 3 → xI j = xI' j) : L3 w N tI' xI' W :=
  ⟨h.k, by have := h.t; rwa [icells_congr h1] at this, by have := h.x; rwa [icells_congr h2] at this, h.b, h.z⟩

set_option maxRecDepth 100000 in
theorem eq38 (a b c d e f : Int) (W : World) : (Op.equalIn 10000 38 (.agg #[.int .i64 a, .int .i64 b, .int .i64 c, .int .i64 d, .int .i64 e, .int .i64 f]) (.agg #[.int .i64 a, .int .i64 b, .int .i64 c, .int .i64 d, .int .i64 e, .int .i64 f])).run Yba.prog W = .ok true W := by
  unfold Op.equalIn
  simp [run_underlying Yba.underlying38, go_sem]
  rw [show List.range' 0 6 = [0, 1, 2, 3, 4, 5] from rfl]
  have h3 : ∀ (x : Int) (w : World), (Op.equalIn 9999 3 (.int .i64 x) (.int .i64 x)).run Yba.prog w = .ok true w := fun x w => by
    have := run_equalIn_int (P := Yba.prog) (w := w) 9998 3 .i64 .i64 x x Yba.underlying3
    rw [this]
    simp
  have ha : ∀ w : World, (isAgg 3).run Yba.prog w = .ok false w := Yba.isAgg3
  simp only [List.forIn_cons, List.forIn_nil, Sem.run_bind, Sem.run_pure, Result.andThen_ok, ha, Bool.false_eq_true, Bool.true_eq_false, if_false, List.getElem?_cons_zero, List.getElem?_cons_succ, h3, reduceIte]

set_option maxHeartbeats 8000000 in
set_option maxRecDepth 100000 in
theorem law_any (hcl : ChecksAs) (ao : Option Addr) (len cap : Nat) (l : List (Int × Int × Int)) (w : World) (h0 : 0 < len) (hlen : len ≤ 1024) (hst : Steps3 w w.heap.size ao len l) :
    Calls Yba.prog 3 #[.slice ao len cap] w fun e w' => e = .returned (.bool true) ∧ Below w.heap.size w w' := by
  obtain ⟨hl, hb, hcells⟩ := hst
  have hd0 : ((len : Int) == 0) = false := by simp; omega
  have hd1 : decide ((1024 : Int) < (len : Int)) = false := by simp; omega
  obtain ⟨C, hCs, hmk⟩ := make_ops len (by omega)
  have Hcl : Hid ChecksAs := hcl
  clear hcl
  go_enter Yba.func3, Yba.ntmps3
  go_upto_block 0 with fail
  go_cut [6] (fun _ wc => L3 w w.heap.size (fun _ => -1) (fun _ => 0) wc)
  case first =>
    go_wp2_with fail
    go_loopg [6] 4 (fun g i wr => ∃ k : Nat, k ≤ 4 ∧ g = 4 - k ∧ i = .int .i64 k ∧ L3 w w.heap.size (fun j => if j < k then -1 else 0) (fun _ => 0) wr)
    case atStart => exact ⟨0, by omega, rfl, rfl, by simpa using L3.start w⟩
    case round =>
      obtain ⟨k, hk, rfl, rfl, hm⟩ := hrel
      by_cases hlt : k < 4
      · have hc := hm.t.cellOf (icells_get _ hlt)
        have hf := hm.t.frozen k
        go_wp2_with fail
        go_roundg (4 - (k + 1))
        case measure => omega
        case rel =>
          refine ⟨k + 1, by omega, rfl, by go_num, (hm.setT k (-1)).congr (fun r hr => ?_) (fun _ _ => rfl)⟩
          simp only [putI]
          by_cases e : r = k
          · rw [if_pos e, if_pos (by omega)]
          · by_cases e2 : r < k
            · rw [if_neg e, if_pos e2, if_pos (by omega)]
            · rw [if_neg e, if_neg e2, if_neg (by omega)]
      · obtain rfl : k = 4 := by omega
        go_wp2_with fail
        go_meet
        case rel => exact hm.congr (fun r hr => by rw [if_pos hr]) (fun _ _ => rfl)
  case rest =>
    go_upto_block 2 with fail
    go_cut [7] (fun _ wc => L3 w w.heap.size (fun _ => -1) (fun _ => -1) wc)
    case first =>
      go_wp2_with fail
      go_loopg [7] 3 (fun g i wr => ∃ k : Nat, k ≤ 3 ∧ g = 3 - k ∧ i = .int .i64 k ∧ L3 w w.heap.size (fun _ => -1) (fun j => if j < k then -1 else 0) wr)
      case atStart => exact ⟨0, by omega, rfl, rfl, by simpa using hcut⟩
      case round =>
        obtain ⟨k, hk, rfl, rfl, hm⟩ := hrel
        by_cases hlt : k < 3
        · have hc := hm.x.cellOf (icells_get _ hlt)
          have hf := hm.x.frozen k
          go_wp2_with fail
          go_roundg (3 - (k + 1))
          case measure => omega
          case rel =>
            refine ⟨k + 1, by omega, rfl, by go_num, (hm.setX k (-1)).congr (fun _ _ => rfl) (fun r hr => ?_)⟩
            simp only [putI]
            by_cases e : r = k
            · rw [if_pos e, if_pos (by omega)]
            · by_cases e2 : r < k
              · rw [if_neg e, if_pos e2, if_pos (by omega)]
              · rw [if_neg e, if_neg e2, if_neg (by omega)]
        · obtain rfl : k = 3 := by omega
          go_wp2_with fail
          go_meet
          case rel => exact hm.congr (fun _ _ => rfl) (fun r hr => by rw [if_pos hr])
    case rest =>
      have hL := hcut
      clear hcut
      go_upto_block 4 with fail
      have hz := hL.z
      have hAt : LAt w w.heap.size (.slice (some ⟨w.heap.size + 1 + 1 + 1 + 1, 0, none⟩) 0 len) (.slice none 0 0) (.slice none 0 0) (.slice none 0 0) [] (fun _ => -1) (fun _ => -1) (fun _ => false) 0 0 0 ((wc.alloc (.cells #[.bool false, .bool false, .bool false, .bool false] 27)).alloc (.cells C 34)) := by
        have e1 := (Blk.new wc 27 (ucells fun _ => false)).alloc (.cells C 34)
        have e2 := Blk.new (wc.alloc (.cells #[.bool false, .bool false, .bool false, .bool false] 27)) 34 C
        rw [World.size_alloc, hz] at e2
        rw [hz] at e1
        exact ⟨(hL.k.alloc _).alloc _, (hL.t.alloc _).alloc _, (hL.x.alloc _).alloc _, e1, ⟨rfl, .inr ⟨_, len, C, rfl, Nat.le_refl _, e2, Nat.zero_le _, by unfold maxLen; omega, hCs, by simp [opCells]⟩⟩, ⟨[], World.ownsRow_nil _ _ _ _⟩, ⟨[], World.ownsRow_nil _ _ _ _⟩, ⟨[], World.ownsRow_nil _ _ _ _⟩, .inl rfl, (hL.b.alloc (by omega) _).alloc (by simp; omega) _⟩
      rw [hz]
      generalize (wc.alloc (.cells #[.bool false, .bool false, .bool false, .bool false] 27)).alloc (.cells C 34) = W3 at *
      have Hb : Hid (∀ s ∈ l, (0 ≤ s.1 ∧ s.1 ≤ 255) ∧ (0 ≤ s.2.1 ∧ s.2.1 ≤ 255) ∧ 0 ≤ s.2.2 ∧ s.2.2 ≤ 255) := hb
      have Hcells : Hid _ := hcells h0
      clear hL hz hmk hd0 hd1 hb hcells
      go_cut [9, 10, 11, 12] (fun vo vt vi ve wc => ∃ (ops : List (Int × Int × Int)) (tI xI : Nat → Int) (en : Nat → Bool) (nT nX : Nat), LAt w w.heap.size vo vt vi ve ops tI xI en nT nT nX wc ∧ LInv ops tI xI en nT nX ∧ ops.length = len)
      case first =>
        go_wp2_with fail
        go_loopg [9, 10, 11, 12, 49] len (fun g vo vt vi ve i wr => ∃ (k : Nat) (ops : List (Int × Int × Int)) (tI xI : Nat → Int) (en : Nat → Bool) (nT nX : Nat), k ≤ len ∧ g = len - k ∧ i = .int .i64 k ∧ LAt w w.heap.size vo vt vi ve ops tI xI en nT nT nX wr ∧ LInv ops tI xI en nT nX ∧ ops.length = k)
        case atStart => exact ⟨0, [], _, _, _, 0, 0, Nat.zero_le _, rfl, rfl, hAt, LInv.start, rfl⟩
        case round =>
          clear hAt
          obtain ⟨k, ops, tI, xI, en, nT, nX, hk, rfl, rfl, hAt, hI, hol⟩ := hrel
          have hol1 : ops.length ≤ 1024 := by omega
          have Hol : Hid (ops.length = k) := hol
          clear hol
          by_cases hlt : k < len
          · obtain ⟨b, off, rfl, hbB, hc⟩ := Hcells.out
            have hmem : l.getD k (0, 0, 0) ∈ l := by
              rw [List.getD_eq_getElem?_getD, List.getElem?_eq_getElem (show k < l.length by omega)]
              simp
            have hbnd := Hb.out _ hmem
            have d0 := (hAt.b.cell (p := ⟨b, off + k * 3, none⟩) hbB).trans (hc k hlt).1
            have d1 := (hAt.b.cell (p := ⟨b, off + k * 3 + 1, none⟩) hbB).trans (hc k hlt).2.1
            have d2 := (hAt.b.cell (p := ⟨b, off + k * 3 + 2, none⟩) hbB).trans (hc k hlt).2.2
            obtain ⟨⟨ks, ts, xs⟩, hs⟩ : ∃ s, s = l.getD k (0, 0, 0) := ⟨_, rfl⟩
            rw [← hs] at d0 d1 d2 hbnd
            dsimp only at d0 d1 d2 hbnd
            obtain ⟨⟨hk1, hk2⟩, ⟨ht1, ht2⟩, hx1, hx2⟩ := hbnd
            clear hs hmem hc Hcells
            obtain ⟨kr, hkr⟩ : ∃ kr : Nat, ks % 7 = kr := ⟨(ks % 7).toNat, by omega⟩
            obtain ⟨rt, hrt⟩ : ∃ rt : Nat, ts % 4 = rt := ⟨(ts % 4).toNat, by omega⟩
            obtain ⟨rx, hrx⟩ : ∃ rx : Nat, xs % 3 = rx := ⟨(xs % 3).toNat, by omega⟩
            have hkr7 : kr < 7 := by omega
            have hrt4 : rt < 4 := by omega
            have hrx3 : rx < 3 := by omega
            go_upto_region 22 with fail
            have hA4 := hAt.alloc (.cells #[.int .u8 ks, .int .u8 ts, .int .u8 xs] 32)
            have hob := Blk.new wr 32 #[.int .u8 ks, .int .u8 ts, .int .u8 xs]
            generalize wr.alloc (.cells #[.int .u8 ks, .int .u8 ts, .int .u8 xs] 32) = W4 at *
            generalize wr.heap.size = Bo at *
            clear d0 d1 d2 hAt
            have b0 : W4.cell? ⟨Bo, 0, none⟩ = some (.int .u8 ks) := hob.cellOf (j := 0) rfl
            have b1 : W4.cell? ⟨Bo, 1, none⟩ = some (.int .u8 ts) := hob.cellOf (j := 1) rfl
            have b2 : W4.cell? ⟨Bo, 2, none⟩ = some (.int .u8 xs) := hob.cellOf (j := 2) rfl
            have ck := hA4.k.cellOf (kcells_get hkr7)
            have ce := hA4.e.cellOf (ucells_get en hrt4)
            obtain ⟨ev, hev⟩ : ∃ ev, en rt = ev := ⟨_, rfl⟩
            rw [hev] at ce
            have Hev : Hid (en rt = ev) := hev
            clear hev
            go_upto_region 25 with fail
            rw [hrt, hrx]
            clear b0 b1 b2 ck hob hkr hrt hrx hk1 hk2 ht1 ht2 hx1 hx2
            obtain ⟨cb, hcb⟩ : ∃ cb : Bool, cb = (ev && decide (kr ≠ 6)) := ⟨_, rfl⟩
            obtain ⟨kd, hkd⟩ : ∃ kd : Int, kd = if ev = true then 7 else (kr : Int) + 1 := ⟨_, rfl⟩
            have hkd17 : 1 ≤ kd ∧ kd ≤ 7 := by rw [hkd]; split <;> omega
            have Hkd7 : Hid (ev = true → kd = 7) := fun h => by rw [hkd, if_pos h]
            have Hcb1 : Hid (cb = true → kd = 7) := fun h => by
              rw [hcb] at h
              simp only [Bool.and_eq_true] at h
              rw [hkd, if_pos h.1]
            have Hcb0 : Hid (cb = false → kd = (kr : Int) + 1) := fun h => by
              rw [hcb] at h
              cases ev with
              | false => rw [hkd]; rfl
              | true =>
                simp only [Bool.true_and, decide_eq_false_iff_not, ne_eq, Decidable.not_not] at h
                rw [hkd, h]
                rfl
            have Hcb : Hid (cb = (ev && decide (kr ≠ 6))) := hcb
            clear hcb hkd
            go_cut [73] (fun bb wc => W4 = wc ∧ bb = .bool cb)
            case first =>
              cases ev with
              | false =>
                go_wp2_with fail
                go_meet
                case rel => exact ⟨rfl, by rw [Hcb.out]; rfl⟩
              | true =>
                by_cases h6 : kr = 6
                · have h6' : (((kr : Int) + 1) != 7) = false := by simp; omega
                  have H6 : Hid (kr = 6) := h6
                  clear h6
                  go_wp2_with fail
                  go_meet
                  case rel => exact ⟨rfl, by rw [Hcb.out]; simp [H6.out]⟩
                · have h6' : (((kr : Int) + 1) != 7) = true := by simp; omega
                  have H6 : Hid (¬ kr = 6) := h6
                  clear h6
                  go_wp2_with fail
                  go_meet
                  case rel => exact ⟨rfl, by rw [Hcb.out]; simp [H6.out]⟩
            case rest =>
              obtain ⟨rfl, rfl⟩ := hcut
              clear ce
              go_upto_if 73 with fail
              go_cut [15] (fun v wc => W4 = wc ∧ v = .int .u8 kd)
              case first =>
                cases cb with
                | false =>
                  go_wp2_with fail
                  go_meet
                  case rel => exact ⟨rfl, by rw [Hcb0.out (by simp)]⟩
                | true =>
                  go_wp2_with fail
                  go_meet
                  case rel => exact ⟨rfl, by rw [Hcb1.out (by simp)]⟩
              case rest =>
                obtain ⟨rfl, rfl⟩ := hcut
                have hnT4 := hI.nT_le
                have hnX3 := hI.nX_le
                have htr := hI.tr rt hrt4
                have ctI := hA4.t.cellOf (icells_get tI hrt4)
                have ftI := hA4.t.frozen rt
                obtain ⟨tv, htv⟩ : ∃ tv, tI rt = tv := ⟨_, rfl⟩
                rw [htv] at ctI htr
                have Htv : Hid (tI rt = tv) := htv
                clear htv
                go_upto_if 77 with fail
                go_cut [10, 12] (fun vt ve wc => ∃ (tI' : Nat → Int) (nT' : Nat), LAt w w.heap.size u9 vt u11 ve ops tI' xI en nT' nT' nX wc ∧ LInv ops tI' xI en nT' nX ∧ 0 ≤ tI' rt)
                case first =>
                  by_cases hneg : tv < 0
                  · have hdn : decide (tv < 0) = true := by simpa using hneg
                    have hI2 := hI.newT hrt4 (by rw [Htv.out]; exact hneg)
                    have hA5 := hA4.setT rt (nT : Int)
                    obtain ⟨x1, ho1⟩ := hA5.o1
                    obtain ⟨a1, c1, rfl, _, _⟩ := own_shape ho1
                    go_wp2_with (first
                      | (at_builtin; refine app29 rfl (.tmp 82) (.tmp 85) rfl (w.heap.size + 1 + 1 + 1 + 1) (.slice a1 nT c1) nT x1 ((rt : Int) + 1) rfl _ rfl (by simp) ho1 (by omega) (by have := hA5.lt; omega) ?_; intro g1 cc1 w1 hown1 hgrow1 hat1; have hA6 := hA5.appT hown1 hgrow1 (by simpa [Value.ownBlock] using hat1); obtain ⟨x3, ho3⟩ := hA6.o3)
                      | (at_builtin; refine app29 rfl (.tmp 87) (.tmp 88) rfl (w.heap.size + 1 + 1 + 1 + 1) u12 nT x3 (-1) rfl _ rfl (by simp) ho3 (by omega) (by have := hA6.lt; omega) ?_; intro g2 cc2 w2 hown2 hgrow2 hat2; have hA7 := hA6.appE hown2 hgrow2 (by simpa [Value.ownBlock] using hat2)))
                    go_meet
                    case rel => exact ⟨_, _, hA7, hI2, by simp [putI]⟩
                  · have hdn : decide (tv < 0) = false := by simpa using hneg
                    have Hneg : Hid (0 ≤ tv) := (by omega : 0 ≤ tv)
                    go_wp2_with fail
                    go_meet
                    case rel => exact ⟨tI, nT, hA4, hI, by rw [Htv.out]; exact Hneg.out⟩
                case rest =>
                  clear hA4 hI htr ctI ftI Htv hnT4
                  obtain ⟨tI', nT', hA5, hI5, ht0⟩ := hcut
                  have hnT4 := hI5.nT_le
                  have ctI := hA5.t.cellOf (icells_get tI' hrt4)
                  obtain ⟨tv', htv'⟩ : ∃ tv', tI' rt = tv' := ⟨_, rfl⟩
                  have htr := hI5.tr rt hrt4
                  rw [htv'] at ctI ht0 htr
                  have Htv : Hid (tI' rt = tv') := htv'
                  clear htv'
                  obtain ⟨t, rfl⟩ : ∃ t : Nat, tv' = t := ⟨tv'.toNat, by omega⟩
                  have htn : t < nT' := by omega
                  go_upto_region 33 with fail
                  go_cut [98] (fun bb wc' => wc = wc' ∧ bb = .bool (decide (kd = 3 ∨ kd = 4)))
                  case first =>
                    by_cases h3 : kd = 3
                    · go_wp2_with fail
                      go_meet
                      case rel => exact ⟨rfl, by simp [h3]⟩
                    · by_cases h4 : kd = 4
                      · go_wp2_with fail
                        go_meet
                        case rel => exact ⟨rfl, by simp [h4]⟩
                      · go_wp2_with fail
                        go_meet
                        case rel => exact ⟨rfl, by simp [h3, h4]⟩
                  case rest =>
                    obtain ⟨rfl, rfl⟩ := hcut
                    go_upto_if 98 with fail
                    go_cut [11, 12, 19] (fun vi ve xv wc => ∃ (xI' : Nat → Int) (nX' : Nat) (x : Int), xv = .int .i64 x ∧ LAt w w.heap.size u9 u10 vi ve ops tI' xI' (if kd = 3 ∨ kd = 4 then putB en rt true else en) nT' nT' nX' wc ∧ LInv ops tI' xI' en nT' nX' ∧ ((kd = 3 ∨ kd = 4) → x = -1) ∧ (kd ≠ 3 → kd ≠ 4 → 0 ≤ x ∧ x < nX'))
                    case first =>
                      by_cases h34 : kd = 3 ∨ kd = 4
                      · have hd : decide (kd = 3 ∨ kd = 4) = true := by simpa using h34
                        rw [hd]
                        have H34 : Hid (kd = 3 ∨ kd = 4) := h34
                        have ce := hA5.e.cellOf (ucells_get en hrt4)
                        have fe := hA5.e.frozen rt
                        have hA6 := hA5.setE rt true
                        obtain ⟨x3, ho3⟩ := hA6.o3
                        obtain ⟨ge, cpe, rfl, _, _⟩ := own_shape_pos ho3 (by omega)
                        have hx3 := ho3.1
                        have cE := ho3.cellAt t (by omega)
                        rw [List.getElem?_eq_getElem (show t < x3.length by omega)] at cE
                        have fE := ho3.frozenAt t
                        obtain ⟨ao9, c9, rfl, _, _⟩ := own_shape hA5.o0
                        have hA7 := hA6.setEnd rfl t (.int .i64 (ops.length : Int))
                        clear h34 hd
                        go_wp2_with fail
                        go_meet
                        case rel => exact ⟨xI, nX, -1, rfl, by rw [if_pos H34.out]; exact hA7, hI5, fun _ => rfl, fun a b => by rcases H34.out with e | e <;> contradiction⟩
                      · have hd : decide (kd = 3 ∨ kd = 4) = false := by simpa using h34
                        rw [hd]
                        have H34 : Hid (¬ (kd = 3 ∨ kd = 4)) := h34
                        have hxr := hI5.xr rx hrx3
                        have cx := hA5.x.cellOf (icells_get xI hrx3)
                        have fx := hA5.x.frozen rx
                        obtain ⟨xv, hxv⟩ : ∃ xv, xI rx = xv := ⟨_, rfl⟩
                        rw [hxv] at cx hxr
                        have Hxv : Hid (xI rx = xv) := hxv
                        clear h34 hd hxv
                        by_cases hneg : xv < 0
                        · have hI6 := hI5.newX hrx3 (by rw [Hxv.out]; exact hneg)
                          have hA6 := hA5.setX rx (nX : Int)
                          obtain ⟨x2, ho2⟩ := hA6.o2
                          obtain ⟨a2, c2, rfl, _, _⟩ := own_shape ho2
                          go_wp2_with (at_builtin; refine app30 rfl (.tmp 114) (.tmp 119) rfl (w.heap.size + 1 + 1 + 1 + 1) (.slice a2 nX c2) nX x2 _ rfl _ rfl (by simp) ho2 (by omega) (by have := hA6.lt; omega) ?_; intro g1 cc1 w1 hown1 hgrow1 hat1; have hA7 := hA6.appI hown1 hgrow1; have cx7 := hA7.x.cellOf (icells_get _ hrx3); have ex7 : putI xI rx (nX : Int) rx = (nX : Int) := (by simp [putI]); rw [ex7] at cx7)
                          go_meet
                          case rel => exact ⟨_, _, (nX : Int), rfl, by rw [if_neg H34.out]; exact hA7, hI6, fun h => absurd h H34.out, fun _ _ => ⟨by omega, by omega⟩⟩
                        · go_wp2_with fail
                          go_meet
                          case rel => exact ⟨xI, nX, xv, rfl, by rw [if_neg H34.out]; exact hA5, hI5, fun h => absurd h H34.out, fun _ _ => ⟨by omega, hxr.2⟩⟩
                    case rest =>
                      clear hA5
                      obtain ⟨xI', nX', x, rfl, hA6, hI6, hx1, hx2⟩ := hcut
                      have Hx1 : Hid ((kd = 3 ∨ kd = 4) → x = -1) := hx1
                      have Hx2 : Hid (kd ≠ 3 → kd ≠ 4 → 0 ≤ x ∧ x < nX') := hx2
                      clear hx1 hx2
                      have hpush := hI6.push hrt4 (by rw [Htv.out]; omega) hkd17 (fun h => Hkd7.out (by rw [← Hev.out]; exact h)) Hx1.out Hx2.out
                      rw [Htv.out] at hpush
                      generalize (if kd = 3 ∨ kd = 4 then putB en rt true else en) = en' at *
                      go_wp2_with (at_builtin; refine app28 rfl (.tmp 124) (.tmp 129) rfl (w.heap.size + 1 + 1 + 1 + 1) u9 ops.length _ kd (t : Int) x rfl _ rfl (by simp) hA6.o0 (by omega) (by have := hA6.lt; omega) ?_; intro g1 cc1 w1 hown1 hgrow1 hat1; have hA7 := hA6.appO hown1 hgrow1)
                      go_roundg (len - (k + 1))
                      case measure => omega
                      case rel => exact ⟨k + 1, _, _, _, _, _, _, by omega, rfl, by go_num, hA7, hpush, by simp [Hol.out]⟩
          · obtain rfl : k = len := by omega
            go_wp2_with fail
            go_meet
            case rel => exact ⟨ops, tI, xI, en, nT, nX, hAt, hI, Hol.out⟩
      case rest =>
        clear hAt
        obtain ⟨ops, tI, xI, en, nT, nX, hAt, hI, hol⟩ := hcut
        obtain ⟨go, co, rfl, hgo, _⟩ := own_shape_pos hAt.o0 (by omega)
        obtain ⟨x1, ho1⟩ := hAt.o1
        obtain ⟨a1, c1, rfl, _, _⟩ := own_shape ho1
        obtain ⟨x2, ho2⟩ := hAt.o2
        obtain ⟨a2, c2, rfl, _, _⟩ := own_shape ho2
        obtain ⟨x3, ho3⟩ := hAt.o3
        obtain ⟨a3, c3, rfl, _, _⟩ := own_shape ho3
        have hgl : go < wc.heap.size := by obtain ⟨cur, hb, _⟩ := own_blk hAt.o0 (k := go) rfl; exact hb.lt
        have hol1 : ops.length ≤ 1024 := by omega
        have hopsAt : OpsAt wc go ops := fun p hp => by
          have := opCells_get ops p hp
          exact ⟨by rw [hAt.o0.cellAt (p * 3) (by omega)]; exact this.1, by rw [hAt.o0.cellAt (p * 3 + 1) (by omega)]; exact this.2.1, by rw [hAt.o0.cellAt (p * 3 + 2) (by omega)]; exact this.2.2⟩
        have hbx := Blk.new wc 37 #[.slice (some ⟨go, 0, none⟩) ops.length co, .slice a1 nT c1, .slice a2 nX c2, .slice a3 nT c3]
        have hb1 := (Below.refl wc.heap.size wc).alloc (Nat.le_refl _) (.cells #[.slice (some ⟨go, 0, none⟩) ops.length co, .slice a1 nT c1, .slice a2 nX c2, .slice a3 nT c3] 37)
        have hsz : (wc.alloc (.cells #[.slice (some ⟨go, 0, none⟩) ops.length co, .slice a1 nT c1, .slice a2 nX c2, .slice a3 nT c3] 37)).heap.size = wc.heap.size + 1 := by simp
        have hsch : SchR (wc.alloc (.cells #[.slice (some ⟨go, 0, none⟩) ops.length co, .slice a1 nT c1, .slice a2 nX c2, .slice a3 nT c3] 37)) (wc.alloc (.cells #[.slice (some ⟨go, 0, none⟩) ops.length co, .slice a1 nT c1, .slice a2 nX c2, .slice a3 nT c3] 37)).heap.size wc.heap.size go co a1 c1 a2 c2 ops nT nX :=
          ⟨by omega, by omega, hbx.cellOf rfl, hbx.cellOf rfl, hbx.cellOf rfl, hopsAt.below hb1 hgl⟩
        have hck := Hcl.out _ _ _ _ _ _ _ _ ops nT nX hsch hI.v hI.nT_le hI.nX_le hol1
        have Hck : Hid (Calls Yba.prog 6 #[.pointer (some ⟨wc.heap.size, 0, none⟩)] (wc.alloc (.cells #[.slice (some ⟨go, 0, none⟩) ops.length co, .slice a1 nT c1, .slice a2 nX c2, .slice a3 nT c3] 37)) _) := hck
        have Hv := hI.v
        have hnT := hI.nT_le
        have hnX := hI.nX_le
        have hbw := hAt.b
        have hwc := hAt.lt
        obtain ⟨f, hf⟩ : ∃ f, (mrun nT nX ops ops.length).f = f := ⟨_, rfl⟩
        rw [hsz, hf] at Hck
        have Hf : Hid ((mrun nT nX ops ops.length).f = f) := hf
        clear hck hf hAt ho1 ho2 ho3 hsch
        have HV : Hid (Valid ops nT nX) := Hv
        clear Hv hol
        have efc : fcells f = #[.int .i64 (f 0), .int .i64 (f 1), .int .i64 (f 2), .int .i64 (f 3), .int .i64 (f 4), .int .i64 (f 5)] := rfl
        rw [efc] at Hck
        have Hefc : Hid (fcells f = #[.int .i64 (f 0), .int .i64 (f 1), .int .i64 (f 2), .int .i64 (f 3), .int .i64 (f 4), .int .i64 (f 5)]) := efc
        clear efc
        have Hmo : Hid (∀ W : World, Below wc.heap.size wc W → Calls Yba.prog 7 #[.slice (some ⟨go, 0, none⟩) ops.length co, .int .i64 nT, .int .i64 nX] W fun e w' => e = .returned (.agg #[.int .i64 (f 0), .int .i64 (f 1), .int .i64 (f 2), .int .i64 (f 3), .int .i64 (f 4), .int .i64 (f 5)]) ∧ Below W.heap.size W w') := fun W hW => by
          have := model_any W go co ops nT nX HV.out hnT hnX hol1 (by have := hW.size; omega) (hopsAt.below hW hgl)
          rw [Hf.out, Hefc.out] at this
          exact this
        have heq := eq38 (f 0) (f 1) (f 2) (f 3) (f 4) (f 5)
        go_wp2_with (first
          | (go_at_call 6; refine Hck.out.mono ?_; rintro e w2 ⟨rfl, hbel2⟩; have hw2 := hbel2.size; rw [hsz] at hw2; have hbA := (hb1.trans (hbel2.mono (Nat.le_succ _))).alloc (by omega) (.cells #[.int .i64 (f 0), .int .i64 (f 1), .int .i64 (f 2), .int .i64 (f 3), .int .i64 (f 4), .int .i64 (f 5)] 40); have hg40 := Blk.new w2 40 #[.int .i64 (f 0), .int .i64 (f 1), .int .i64 (f 2), .int .i64 (f 3), .int .i64 (f 4), .int .i64 (f 5)])
          | (go_at_call 7; refine (Hmo.out _ hbA).mono ?_; rintro e w3 ⟨rfl, hbel3⟩; have hg3 := hg40.below hbel3 (by simp); have q0 := (hg3.alloc (.cells #[.int .i64 (f 0), .int .i64 (f 1), .int .i64 (f 2), .int .i64 (f 3), .int .i64 (f 4), .int .i64 (f 5)] 38)).cellOf (j := 0) rfl; have q1 := (hg3.alloc (.cells #[.int .i64 (f 0), .int .i64 (f 1), .int .i64 (f 2), .int .i64 (f 3), .int .i64 (f 4), .int .i64 (f 5)] 38)).cellOf (j := 1) rfl; have q2 := (hg3.alloc (.cells #[.int .i64 (f 0), .int .i64 (f 1), .int .i64 (f 2), .int .i64 (f 3), .int .i64 (f 4), .int .i64 (f 5)] 38)).cellOf (j := 2) rfl; have q3 := (hg3.alloc (.cells #[.int .i64 (f 0), .int .i64 (f 1), .int .i64 (f 2), .int .i64 (f 3), .int .i64 (f 4), .int .i64 (f 5)] 38)).cellOf (j := 3) rfl; have q4 := (hg3.alloc (.cells #[.int .i64 (f 0), .int .i64 (f 1), .int .i64 (f 2), .int .i64 (f 3), .int .i64 (f 4), .int .i64 (f 5)] 38)).cellOf (j := 4) rfl; have q5 := (hg3.alloc (.cells #[.int .i64 (f 0), .int .i64 (f 1), .int .i64 (f 2), .int .i64 (f 3), .int .i64 (f 4), .int .i64 (f 5)] 38)).cellOf (j := 5) rfl))
        go_ret
        have hle : w.heap.size ≤ wc.heap.size := by omega
        have hszA := hbA.size
        have h3 := (hbw.trans (hbA.mono hle)).trans (hbel3.mono (by omega))
        exact ⟨rfl, h3.alloc (by have := h3.size; omega) _⟩
end Go.Proofs.Ybulkri.A
