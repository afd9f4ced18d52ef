import Derived.Test.YbulkriProg
import Derived.Test.YbulkriSch
import Derived.Test.YbulkriAppend
import Derived.WalkKit
import Derived.WalkSpells
import Derived.Deep.DeepCutAuto
import Derived.Deep.CutBlock
import Derived.Deep.DeepMust
namespace Go.Proofs.Ybulkri
open Go.RowKit

/-- how the steps lie in memory -/
def StepsAt (w : World) (B : Nat) (ao : Option Addr) (len : Nat) (l : List (Int × Int)) : Prop :=
  l.length = len ∧ (∀ s ∈ l, (0 ≤ s.1 ∧ s.1 ≤ 255) ∧ 0 ≤ s.2 ∧ s.2 ≤ 255) ∧
  (0 < len → ∃ b off, ao = some ⟨b, off, none⟩ ∧ b < B ∧ ∀ i, i < len → w.cell? ⟨b, off + i * 2, none⟩ = some (.int .u8 (l.getD i (0, 0)).1) ∧ w.cell? ⟨b, off + i * 2 + 1, none⟩ = some (.int .u8 (l.getD i (0, 0)).2))

set_option maxHeartbeats 1000000 in
set_option maxRecDepth 100000 in
theorem build_any (ao : Option Addr) (len cap : Nat) (l : List (Int × Int)) (w : World) (hlen : len ≤ 1024) (hst : StepsAt w w.heap.size ao len l) :
    Calls Yba.prog 8 #[.slice ao len cap] w fun e w' => e = .returned (.pointer (some ⟨w.heap.size, 0, none⟩)) ∧ Below w.heap.size w w' ∧
      ∃ vo vt vi ve ops txns items ends, Sch w' w.heap.size vo vt vi ve ops txns items ends ∧ BP.Inv l txns ends ops := by
  obtain ⟨hl, hb, hcells⟩ := hst
  go_enter Yba.func8, Yba.ntmps8
  go_wp2
  go_loopg [16] len (fun g i wr => ∃ k : Nat, k ≤ len ∧ g = len - k ∧ i = .int .i64 k ∧ ∃ vo vt vi ve ops txns items ends, Sch wr w.heap.size vo vt vi ve ops txns items ends ∧ BP.Inv (l.take k) txns ends ops ∧ Below w.heap.size w wr ∧ txns.length ≤ k ∧ items.length ≤ k)
  case atStart => exact ⟨0, Nat.zero_le _, rfl, rfl, _, _, _, _, [], [], [], [], ⟨Blk.new _ _ _, World.ownsRow_nil _ _ _ _, World.ownsRow_nil _ _ _ _, World.ownsRow_nil _ _ _ _, World.ownsRow_nil _ _ _ _, .inl rfl⟩, BP.inv_nil, (Below.refl _ _).alloc (Nat.le_refl _) _, Nat.le_refl _, Nat.le_refl _⟩
  case round =>
    obtain ⟨k, hk, rfl, rfl, vo, vt, vi, ve, ops, txns, items, ends, hsch, hinv, hbel, htk, hik⟩ := hrel
    by_cases hlt : k < len
    · obtain ⟨b, off, rfl, hbB, hc⟩ := hcells (by omega)
      have hc0 := (hbel.cell (p := ⟨b, off + k * 2, none⟩) hbB).trans (hc k hlt).1
      have hc1 := (hbel.cell (p := ⟨b, off + k * 2 + 1, none⟩) hbB).trans (hc k hlt).2
      obtain ⟨ks, hks⟩ : ∃ x, x = (l.getD k (0, 0)).1 := ⟨_, rfl⟩
      obtain ⟨ts, hts⟩ : ∃ x, x = (l.getD k (0, 0)).2 := ⟨_, rfl⟩
      rw [← hks] at hc0
      rw [← hts] at hc1
      have hbnd : (0 ≤ ks ∧ ks ≤ 255) ∧ 0 ≤ ts ∧ ts ≤ 255 := by
        have hm : l.getD k (0, 0) ∈ l := by
          rw [List.getD_eq_getElem?_getD, List.getElem?_eq_getElem (show k < l.length by omega)]
          simp
        rw [hks, hts]
        exact hb _ hm
      obtain ⟨⟨hk1, hk2⟩, ht1, ht2⟩ := hbnd
      have Hs : Hid (l.getD k (0, 0) = (ks, ts)) := by rw [hks, hts]; exact rfl
      clear hc hks hts hb hcells
      obtain ⟨at', ct, rfl, hct, hpt⟩ := own_shape hsch.o1
      go_upto_region 7 with fail
      have hsch1 := hsch.alloc (Obj.cells #[Value.int .u8 ks, Value.int .u8 ts] 48)
      have hst1 := Blk.new wr 48 #[Value.int .u8 ks, Value.int .u8 ts]
      have hbel1 := hbel.alloc hbel.size (Obj.cells #[Value.int .u8 ks, Value.int .u8 ts] 48)
      generalize wr.alloc (Obj.cells #[Value.int .u8 ks, Value.int .u8 ts] 48) = W1 at *
      have hSst : w.heap.size < wr.heap.size := hsch.blk.lt
      generalize wr.heap.size = bs at *
      clear hc0 hc1 hsch hbel
      have hf1 := hsch1.blk.cellOf (j := 1) rfl
      go_upto_block 2 with fail
      go_cut [7] (fun t wc => W1 = wc ∧ ∃ tv : Int, t = .int .i64 tv ∧ ((tv = -1 ∧ ts + 1 ∉ txns) ∨ ∃ t' : Nat, t' < txns.length ∧ tv = t' ∧ txns.getD t' 0 = ts + 1))
      case first =>
        go_wp2_with fail
        go_loop [7, 30] (fun t i => t = .int .i64 (-1) ∧ ∃ j : Nat, j ≤ txns.length ∧ i = .int .i64 j ∧ ∀ j', j' < j → txns.getD j' 0 ≠ ts + 1) (fun _ i => txns.length - (intOf i).toNat)
        case atStart => exact ⟨rfl, 0, Nat.zero_le _, rfl, fun _ h => absurd h (Nat.not_lt_zero _)⟩
        case round =>
          obtain ⟨rfl, j, hj, rfl, hno⟩ := hrel
          by_cases hjl : j < txns.length
          · obtain ⟨gt, rfl, hgt⟩ := hpt (by omega)
            have hcj : W1.cell? ⟨gt, j, none⟩ = some (.int .i64 (txns.getD j 0)) := by
              rw [hsch1.o1.cellAt j (by omega)]
              simp [List.getElem?_eq_getElem hjl]
            obtain ⟨tj, htj⟩ : ∃ x, x = txns.getD j 0 := ⟨_, rfl⟩
            rw [← htj] at hcj
            have Hj : Hid (txns.getD j 0 = tj) := htj.symm
            have Hno : Hid (∀ j', j' < j → txns.getD j' 0 ≠ ts + 1) := hno
            clear htj hno
            by_cases he : tj = ts + 1
            · go_wp2_with fail
              go_meet
              case rel => exact ⟨rfl, _, rfl, .inr ⟨j, hjl, rfl, Hj.out.trans he⟩⟩
            · go_wp2_with fail
              go_round
              case rel =>
                refine ⟨rfl, j + 1, by omega, by go_num, fun j' hj' => ?_⟩
                by_cases e : j' = j
                · rw [e, Hj.out]; exact he
                · exact Hno.out j' (by omega)
              case measure => simp [intOf]; omega
          · have Hno : Hid (∀ j', j' < j → txns.getD j' 0 ≠ ts + 1) := hno
            clear hno
            go_wp2_with fail
            go_meet
            case rel =>
              refine ⟨rfl, _, rfl, .inl ⟨rfl, fun hm => ?_⟩⟩
              obtain ⟨j', hj', e⟩ := List.mem_iff_getElem.1 hm
              exact Hno.out j' (by omega) (by simp [List.getElem?_eq_getElem hj', e])
      case rest =>
        obtain ⟨rfl, tv, rfl, hor⟩ := hcut
        go_upto_if 41 with fail
        go_cut [7] (fun t wc => ∃ (t' : Nat) (vt ve : Value) (txns ends : List Int), t = .int .i64 t' ∧ Sch wc w.heap.size vo vt vi ve ops txns items ends ∧ BP.Mid (l.take k) (ks, ts) txns ends ops t' ∧ Blk wc bs 48 #[.int .u8 ks, .int .u8 ts] ∧ Below w.heap.size w wc ∧ txns.length ≤ k + 1)
        case first =>
          rcases hor with ⟨rfl, hnot⟩ | ⟨t', ht', rfl, heq⟩
          · have hel := hinv.len
            have Hel : Hid (ends.length = txns.length) := hel
            have hel' : ends.length ≤ 1024 := by omega
            clear hel
            go_wp2_with (first
              | (at_builtin; refine app29 rfl (.tmp 51) (.tmp 53) rfl (w.heap.size + 1) _ _ _ (ts + 1) rfl _ rfl (by simp) hsch1.o1 (by omega) (by have := hsch1.blk.lt; omega) ?_; intro g1 c1 w1 hown1 hgrow1 hat1; obtain ⟨hb1, hsch2, hst2, hbel2⟩ := hsch1.txnsStep hst1 hbel1 rfl hown1 hgrow1 hat1; have hcf1 : w1.cell? ⟨w.heap.size, 1, none⟩ = some (.slice at' txns.length ct) := hb1.cellOf rfl; have hff1 := hb1.frozen 1; have hcf3 := hsch2.blk.cellOf (j := 3) rfl)
              | (at_builtin; refine app29 rfl (.tmp 61) (.tmp 62) rfl (w.heap.size + 1) _ _ _ (-1) rfl _ rfl (by simp) hsch2.o3 (by omega) (by have := hsch2.blk.lt; omega) ?_; intro g2 c2 w2 hown2 hgrow2 hat2; obtain ⟨hb2, hsch3, hst3, hbel3⟩ := hsch2.endsStep hst2 hbel2 rfl hown2 hgrow2 hat2; have hcf2 := hb2.cellOf (j := 3) rfl; have hff2 := hb2.frozen 3))
            go_meet
            case rel => exact ⟨txns.length, _, _, _, _, rfl, hsch3, BP.mid_new hinv hnot, hst3, hbel3, by simp; omega⟩
          · have Heq : Hid (txns.getD t' 0 = ts + 1) := heq
            clear heq
            go_wp2_with fail
            go_meet
            case rel => exact ⟨t', _, _, txns, ends, rfl, hsch1, BP.mid_found hinv ht' Heq.out, hst1, hbel1, by omega⟩
        case rest =>
          clear hsch1 hst1 hbel1 hf1 hor hpt hinv htk
          obtain ⟨t', vt2, ve2, txns2, ends2, rfl, hsch3, hmid, hst3, hbel3, hlen3⟩ := hcut
          have hck := hst3.cellOf (j := 0) rfl
          have ht2 := hmid.lt
          have Hlen : Hid (ends2.length = txns2.length) := hmid.len
          have hel2 : t' < ends2.length := by rw [hmid.len]; exact ht2
          obtain ⟨ge, ce, rfl, hge, _⟩ := own_shape_pos hsch3.o3 (by omega)
          go_upto_region 19 with fail
          go_cut [75] (fun b wc' => wc = wc' ∧ b = .bool (decide (ks % 7 + 1 = 3 ∨ ks % 7 + 1 = 4)))
          case first =>
            by_cases h3 : ks % 7 + 1 = 3
            · go_wp2_with fail
              go_meet
              case rel => exact ⟨rfl, by simp [h3]⟩
            · by_cases h4 : ks % 7 + 1 = 4
              · go_wp2_with fail
                go_meet
                case rel => exact ⟨rfl, by simp [h4]⟩
              · go_wp2_with fail
                go_meet
                case rel => exact ⟨rfl, by simp [h3, h4]⟩
          case rest =>
            obtain ⟨rfl, rfl⟩ := hcut
            go_upto_if 75 with fail
            obtain ⟨E, hE⟩ : ∃ x, x = ends2.getD t' 0 := ⟨_, rfl⟩
            have hcE : wc.cell? ⟨ge, t', none⟩ = some (.int .i64 E) := by
              rw [hsch3.o3.cellAt t' (by omega), hE]
              simp [List.getElem?_eq_getElem hel2]
            have hfE := hsch3.o3.frozenAt t'
            have hc3 := hsch3.blk.cellOf (j := 3) rfl
            have HE : Hid (E = ends2.getD t' 0) := hE
            clear hE
            go_cut [10, 11] (fun kv iv wc' => ∃ (ends3 : List Int) (x : Int), kv = .int .u8 (BP.kindOf ks E) ∧ iv = .int .i64 x ∧ -1 ≤ x ∧ x ≤ 0 ∧
              Sch wc' w.heap.size vo vt2 vi (.slice (some ⟨ge, 0, none⟩) ends2.length ce) ops txns2 items ends3 ∧ ends3 = (if BP.endsNow ks E then ends2.set t' (k : Int) else ends2) ∧ Below w.heap.size w wc')
            case first =>
              by_cases h34 : ks % 7 + 1 = 3 ∨ ks % 7 + 1 = 4
              · have hd : decide (ks % 7 + 1 = 3 ∨ ks % 7 + 1 = 4) = true := by simpa using h34
                rw [hd]
                by_cases hE0 : 0 ≤ E
                · have Hk : Hid (BP.kindOf ks E = 7) := BP.kindOf_late h34 hE0
                  have Hn : Hid (BP.endsNow ks E = false) := BP.endsNow_late hE0
                  clear h34 hd
                  go_wp2_with fail
                  go_meet
                  case rel => exact ⟨_, 0, by rw [Hk.out], rfl, by omega, by omega, hsch3, by rw [Hn.out]; rfl, hbel3⟩
                · have Hk : Hid (BP.kindOf ks E = ks % 7 + 1) := BP.kindOf_end hE0
                  have Hn : Hid (BP.endsNow ks E = true) := BP.endsNow_end h34 hE0
                  obtain ⟨hsch4, hbel4⟩ := hsch3.setStep hbel3 t' (k : Int)
                  clear h34 hd
                  go_wp2_with fail
                  go_meet
                  case rel => exact ⟨_, -1, by rw [Hk.out], rfl, by omega, by omega, hsch4, by rw [Hn.out]; rfl, hbel4⟩
              · have hd : decide (ks % 7 + 1 = 3 ∨ ks % 7 + 1 = 4) = false := by simpa using h34
                rw [hd]
                have Hk : Hid (BP.kindOf ks E = ks % 7 + 1) := BP.kindOf_plain h34
                have Hn : Hid (BP.endsNow ks E = false) := BP.endsNow_plain h34
                clear h34 hd
                go_wp2_with fail
                go_meet
                case rel => exact ⟨_, 0, by rw [Hk.out], rfl, by omega, by omega, hsch3, by rw [Hn.out]; rfl, hbel3⟩
            case rest =>
              clear hcE hfE hc3 hsch3 hbel3 hck hst3
              obtain ⟨ends3, x, rfl, rfl, hx1, hx2, hsch4, hends, hbel4⟩ := hcut
              have Hends : Hid (ends3 = (if BP.endsNow ks E then ends2.set t' (k : Int) else ends2)) := hends
              clear hends
              obtain ⟨ai, ci, rfl, hci, _⟩ := own_shape hsch4.o2
              have hc2 := hsch4.blk.cellOf (j := 2) rfl
              go_upto_region 24 with fail
              go_cut [100] (fun b wc' => wc = wc' ∧ ∃ bb : Bool, b = .bool bb)
              case first =>
                by_cases hx : 0 ≤ x
                · have hd : decide (0 ≤ x) = true := by simpa using hx
                  go_wp2_with fail
                  go_meet
                  case rel => exact ⟨rfl, _, rfl⟩
                · have hd : decide (0 ≤ x) = false := by simpa using hx
                  go_wp2_with fail
                  go_meet
                  case rel => exact ⟨rfl, _, rfl⟩
              case rest =>
                obtain ⟨rfl, bb, rfl⟩ := hcut
                go_upto_if 100 with fail
                go_cut [] (fun wc' => ∃ (vi' : Value) (items' : List Value), Sch wc' w.heap.size vo vt2 vi' (.slice (some ⟨ge, 0, none⟩) ends2.length ce) ops txns2 items' ends3 ∧ Below w.heap.size w wc' ∧ items'.length ≤ k + 1)
                case first =>
                  cases bb
                  · go_wp2_with fail
                    go_meet
                    case rel => exact ⟨_, _, hsch4, hbel4, by omega⟩
                  · go_wp2_with (at_builtin; refine app30 rfl (.tmp 105) (.tmp 106) rfl (w.heap.size + 1) _ _ _ _ rfl _ rfl (by simp) hsch4.o2 (by omega) (by have := hsch4.blk.lt; omega) ?_; intro g1 c1 w1 hown1 hgrow1 hat1; obtain ⟨hb1, hsch5, hbel5⟩ := hsch4.itemsStep hbel4 rfl hown1 hgrow1; have hcf1 := hb1.cellOf (j := 2) rfl; have hff1 := hb1.frozen 2)
                    go_meet
                    case rel => exact ⟨_, _, hsch5, hbel5, by simp; omega⟩
                case rest =>
                  clear hsch4 hbel4 hc2
                  obtain ⟨vi5, items5, hsch5, hbel5, hil5⟩ := hcut
                  have hopl : ops.length ≤ 1024 := by have := hmid.opsLen; simp at this; omega
                  have hc0 := hsch5.blk.cellOf (j := 0) rfl
                  go_wp2_with (at_builtin; refine app28 rfl (.tmp 114) (.tmp 119) rfl (w.heap.size + 1) _ _ _ _ _ _ rfl _ rfl (by simp) hsch5.o0 (by omega) (by have := hsch5.blk.lt; omega) ?_; intro g1 c1 w1 hown1 hgrow1 hat1; obtain ⟨hb1, hsch6, hbel6⟩ := hsch5.opsStep hbel5 rfl hown1 hgrow1; have hcf1 := hb1.cellOf (j := 0) rfl; have hff1 := hb1.frozen 0)
                  go_roundg (len - (k + 1))
                  case measure => omega
                  case rel =>
                    have hfin := BP.mid_done hmid x
                    rw [← HE.out, show (List.take k l).length = k by simp; omega, ← Hends.out] at hfin
                    have htake : l.take (k + 1) = l.take k ++ [(ks, ts)] := by
                      rw [List.take_succ_eq_append_getElem (by omega), ← Hs.out]
                      simp [List.getElem?_eq_getElem (show k < l.length by omega)]
                    exact ⟨k + 1, by omega, rfl, by go_num, _, _, _, _, _, _, _, _, hsch6, by rw [htake]; exact hfin, hbel6, hlen3, hil5⟩
    · obtain rfl : k = len := by omega
      go_wp2
      go_ret
      rw [List.take_of_length_le (by omega)] at hinv
      exact ⟨rfl, hbel, _, _, _, _, _, _, _, _, hsch, hinv⟩
end Go.Proofs.Ybulkri
