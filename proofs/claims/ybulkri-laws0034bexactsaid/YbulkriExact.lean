import Derived.Test.YbulkriBuild
import Derived.Test.YbulkriAborted
import Derived.Deep.DeepCutAuto
import Derived.Deep.CutBlock
namespace Go.Proofs.Ybulkri
open Go.RowKit

theorem steps_mem {l : List (Int × Int)} {k : Nat} (h : k < l.length) : l.getD k (0, 0) ∈ l := by
  rw [List.getD_eq_getElem?_getD, List.getElem?_eq_getElem h]
  simp

theorem steps_drop {l : List (Int × Int)} {k : Nat} (h : k < l.length) : l.drop k = l.getD k (0, 0) :: l.drop (k + 1) := by
  rw [List.drop_eq_getElem_cons h, List.getD_eq_getElem?_getD, List.getElem?_eq_getElem h]
  rfl

theorem own_below {w w' : World} {base : Nat} {e : TypeId} {size : Nat} {v : Value} {n : Nat} {xs : List Value} (h : w.ownsRow base e size v n xs) (hb : Below w.heap.size w w') : w'.ownsRow base e size v n xs :=
  h.kept (row := none) ⟨hb.os, hb.tape, hb.output, hb.size, fun k hk _ => hb.block k hk⟩ (by cases hv : v.ownBlock <;> simp)

theorem own_cells {w : World} {base g n cap : Nat} {zs : List Int} (h : w.ownsRow base 3 1 (.slice (some ⟨g, 0, none⟩) n cap) n (zs.map (Value.int .i64))) (hn : n = zs.length) :
    ∀ j, j < zs.length → w.cell? ⟨g, 0 + j, none⟩ = some (.int .i64 (zs.getD j 0)) := by
  intro j hj
  rw [Nat.zero_add, h.cellAt j (by omega)]
  simp [List.getElem?_eq_getElem hj]

/-- slices.Equal of two rows that hold the same -/
theorem equal_own {w : World} {b1 b2 : Nat} {v1 v2 : Value} {zs : List Int} (h1 : w.ownsRow b1 3 1 v1 zs.length (zs.map (Value.int .i64))) (h2 : w.ownsRow b2 3 1 v2 zs.length (zs.map (Value.int .i64))) (hl : zs.length ≤ 1000000) :
    Calls Yba.prog 10 #[v1, v2] w fun e w' => e = .returned (.bool true) ∧ ∃ q, w' = w.drewN q := by
  by_cases h0 : 0 < zs.length
  · obtain ⟨g1, c1, rfl, _, _⟩ := own_shape_pos h1 h0
    obtain ⟨g2, c2, rfl, _, _⟩ := own_shape_pos h2 h0
    refine (Yba.slices_Equal_int g1 0 zs.length c1 g2 0 zs.length c2 zs zs w (Nat.le_refl _) (Nat.le_refl _) (by omega) (by omega) (own_cells h1 rfl) (own_cells h2 rfl)).mono ?_
    rintro e w' ⟨rfl, h⟩
    exact ⟨by simp, h⟩
  · obtain ⟨a1, c1, rfl, _, _⟩ := own_shape h1
    obtain ⟨a2, c2, rfl, _, _⟩ := own_shape h2
    have hz : zs.length = 0 := by omega
    rw [hz]
    refine (Yba.slices_Equal_int_empty a1 a2 c1 0 c2 w (by omega)).mono ?_
    rintro e w' ⟨rfl, rfl⟩
    exact ⟨by simp, 0, rfl⟩

set_option maxHeartbeats 1000000 in
set_option maxRecDepth 100000 in
theorem exact_any (ao : Option Addr) (len cap : Nat) (l : List (Int × Int)) (w : World) (hlen : len ≤ 1024) (hst : StepsAt w w.heap.size ao len l) :
    Calls Yba.prog 4 #[.slice ao len cap] w fun e w' => e = .returned (.bool true) ∧ Below w.heap.size w w' := by
  have hll : l.length ≤ 1024 := by have := hst.1; omega
  go_enter Yba.func4, Yba.ntmps4
  go_wp2_with (first
    | (go_at_call 8; refine (build_any ao len cap l w hlen hst).mono ?_; rintro e w1 ⟨rfl, hbel1, vo, vt, vi, ve, ops, txns, items, ends, hsch, hinv⟩)
    | (go_at_call 9; refine (aborted_any hsch hinv hll (by have := hinv.txns_le; omega)).mono ?_; rintro e w2 ⟨v, zs, rfl, hzs, hown2, hbel2⟩))
  have hlaw := BP.exact_law hinv (fun s hs => (hst.2.1 s hs).2)
  have Hz : Hid (zs = BP.wants l 256) := hzs.trans hlaw
  clear hzs hlaw hinv hsch
  have hbelw : Below w.heap.size w w2 := hbel1.trans (hbel2.mono hbel1.size)
  clear hbel1
  obtain ⟨hl, hb, hcells⟩ := hst
  go_loopg [5, 6] 256 (fun g v5 n6 wr => ∃ k : Nat, k ≤ 256 ∧ g = 256 - k ∧ n6 = .int .i64 (k + 1) ∧ wr.ownsRow w2.heap.size 3 1 v5 (BP.wants l k).length ((BP.wants l k).map (Value.int .i64)) ∧ Below w2.heap.size w2 wr)
  case atStart => exact ⟨0, by omega, rfl, rfl, World.ownsRow_nil _ _ _ _, Below.refl _ _⟩
  case round =>
    obtain ⟨k, hk, rfl, rfl, hown, hbel⟩ := hrel
    have hwl := BP.wants_le l k
    by_cases hlt : k < 256
    · go_upto_block 1 with fail
      go_cut [5] (fun v5 wc => wc.ownsRow w2.heap.size 3 1 v5 (BP.wants l (k + 1)).length ((BP.wants l (k + 1)).map (Value.int .i64)) ∧ Below w2.heap.size w2 wc)
      case first =>
        have HW : Hid (BP.wants l (k + 1) = BP.wants l k ++ (if BP.firstEnd l ((k : Int) + 1) == some true then [(k : Int) + 1] else [])) := rfl
        go_wp2_with fail
        go_loopg [5, 23] len (fun g v5 i wx => v5 = u5 ∧ ∃ j : Nat, j ≤ len ∧ g = len - j ∧ i = .int .i64 j ∧ Hid (BP.firstEnd l ((k : Int) + 1) = BP.firstEnd (l.drop j) ((k : Int) + 1)) ∧ wx.ownsRow w2.heap.size 3 1 u5 (BP.wants l k).length ((BP.wants l k).map (Value.int .i64)) ∧ Below w2.heap.size w2 wx)
        case atStart => exact ⟨rfl, 0, Nat.zero_le _, rfl, rfl, rfl, hown, hbel⟩
        case round =>
          obtain ⟨rfl, j, hj, rfl, rfl, HF, hownx, hbelx⟩ := hrel
          have hszx := hbelx.size
          by_cases hjl : j < len
          · obtain ⟨b, off, rfl, hbB, hc⟩ := hcells (by omega)
            have hbwx : Below w.heap.size w wr := hbelw.trans (hbelx.mono hbelw.size)
            have hc0 := (hbwx.cell (p := ⟨b, off + j * 2, none⟩) hbB).trans (hc j hjl).1
            have hc1 := (hbwx.cell (p := ⟨b, off + j * 2 + 1, none⟩) hbB).trans (hc j hjl).2
            have hbnd := hb _ (steps_mem (l := l) (k := j) (by omega))
            have HD : Hid (l.drop j = l.getD j (0, 0) :: l.drop (j + 1)) := steps_drop (by omega)
            obtain ⟨⟨ks, ts⟩, hks⟩ : ∃ x, x = l.getD j (0, 0) := ⟨_, rfl⟩
            rw [← hks] at hc0 hc1 hbnd HD
            obtain ⟨⟨hk1, hk2⟩, ht1, ht2⟩ := hbnd
            simp only at hc0 hc1 hk1 hk2 ht1 ht2
            clear hks hc hcells hb
            have hown1 := hownx.alloc (Obj.cells #[Value.int .u8 ks, Value.int .u8 ts] 48)
            have hbel1 := hbelx.alloc hszx (Obj.cells #[Value.int .u8 ks, Value.int .u8 ts] 48)
            by_cases hn : ts + 1 = (k : Int) + 1
            · have hn' : ((ts + 1 != (k : Int) + 1)) = false := by simp [hn]
              have HN : Hid (ts + 1 = (k : Int) + 1) := hn
              clear hn
              by_cases h2 : ks % 7 = 2
              · go_wp2_with fail
                go_meet
                case rel =>
                  have e : BP.firstEnd l ((k : Int) + 1) = some false := by rw [HF.out, HD.out, BP.firstEnd, if_pos ⟨HN.out, h2⟩]
                  have e2 : BP.wants l (k + 1) = BP.wants l k := by rw [HW.out, e]; simp
                  rw [e2]
                  exact ⟨hown1, hbel1⟩
              · by_cases h3 : ks % 7 = 3
                · go_wp2_with (at_builtin; refine app29 rfl (.tmp 40) (.tmp 42) rfl w2.heap.size _ _ _ ((k : Int) + 1) rfl _ rfl (by simp) hown1 (by omega) (by simp; omega) ?_; intro g1 c1 w1 hown2 hgrow2 hat2)
                  go_meet
                  case rel =>
                    have e : BP.firstEnd l ((k : Int) + 1) = some true := by rw [HF.out, HD.out, BP.firstEnd, if_neg (fun h => h2 h.2), if_pos ⟨HN.out, h3⟩]
                    have e2 : BP.wants l (k + 1) = BP.wants l k ++ [(k : Int) + 1] := by rw [HW.out, e]; simp
                    rw [e2]
                    exact ⟨by simpa using hown2, grown_below hbel1 (by simp; omega) hown1 (Nat.le_refl _) hgrow2⟩
                · go_wp2_with fail
                  go_roundg (len - (j + 1))
                  case measure => omega
                  case rel =>
                    refine ⟨rfl, j + 1, by omega, rfl, by go_num, ?_, hown1, hbel1⟩
                    refine HF.out.trans ?_
                    rw [HD.out]
                    exact BP.firstEnd_skip _ _ _ (.inr ⟨h2, h3⟩)
            · have hn' : ((ts + 1 != (k : Int) + 1)) = true := by simpa using hn
              have HN : Hid (¬ ts + 1 = (k : Int) + 1) := hn
              clear hn
              go_wp2_with fail
              go_roundg (len - (j + 1))
              case measure => omega
              case rel =>
                refine ⟨rfl, j + 1, by omega, rfl, by go_num, ?_, hown1, hbel1⟩
                refine HF.out.trans ?_
                rw [HD.out]
                exact BP.firstEnd_skip _ _ _ (.inl HN.out)
          · go_wp2_with fail
            go_meet
            case rel =>
              have e : BP.firstEnd l ((k : Int) + 1) = none := by rw [HF.out, List.drop_of_length_le (by omega)]; rfl
              have e2 : BP.wants l (k + 1) = BP.wants l k := by rw [HW.out, e]; simp
              rw [e2]
              exact ⟨hownx, hbelx⟩
      case rest =>
        obtain ⟨hown3, hbel3⟩ := hcut
        go_wp2_with fail
        go_roundg (256 - (k + 1))
        case measure => omega
        case rel => exact ⟨k + 1, by omega, rfl, by go_num, hown3, hbel3⟩
    · obtain rfl : k = 256 := by omega
      have hown4 := own_below hown2 hbel
      rw [Hz.out] at hown4
      go_wp2_with (go_at_call 10; refine (equal_own hown4 hown (by omega)).mono ?_; rintro e w' ⟨rfl, q, rfl⟩)
      go_ret
      exact ⟨rfl, below_drewN' (hbelw.trans (hbel.mono hbelw.size)) q⟩
end Go.Proofs.Ybulkri
