import Derived.Test.YbulksyWalks
namespace Go.Proofs.Ybulksy
open Go.RowKit
set_option linter.unusedVariables false

theorem row_cell {w W : World} {B : Nat} {ao : Option Addr} {len cap : Nat} {zs : List Int} (h : RowAt w B ao len cap zs) (hb : Below B w W) {k : Nat} (hk : k < len) :
    ∃ b off, ao = some ⟨b, off, none⟩ ∧ W.cell? ⟨b, off + k, none⟩ = some (.int .i64 (zs.getD k 0)) := by
  obtain ⟨b, off, e, _, hc⟩ := (h.later hb).cells (by omega)
  exact ⟨b, off, e, hc k hk⟩

set_option maxHeartbeats 1000000 in
set_option maxRecDepth 100000 in
theorem order_some (n : Int) (ao : Option Addr) (len cap h : Nat) (zs : List Int) (w : World) (h0 : 0 ≤ n) (h1 : n ≤ 1073741824) (hl : len ≤ 1024) (hh : (n + 1) / 2 = (h : Int)) (hp : 1 ≤ h) (hle : h ≤ len) (hr : RowAt w w.heap.size ao len cap zs) :
    Calls Yba.prog 3 #[.int .i64 n, .slice ao len cap] w fun e w' => e = .returned (.bool true) ∧ Below w.heap.size w w' := by
  have e1 : ((n + 1) / 2 == 0) = false := by simp; omega
  have e2 : decide ((len : Int) < (n + 1) / 2) = false := by simp; omega
  have e3 : decide ((1024 : Int) < (len : Int)) = false := by simp; omega
  have e4 : decide (n < 0) = false := by simp; omega
  have e5 : decide ((1073741824 : Int) < n) = false := by simp; omega
  have HH : Hid ((n + 1) / 2 = (h : Int)) := hh
  have Htl : Hid (zs.length = len) := hr.tl
  obtain ⟨X, hX⟩ : ∃ X, X = (QP.srt zs).getD (h - 1) 0 := ⟨_, rfl⟩
  have HX : Hid (X = (QP.srt zs).getD (h - 1) 0) := hX
  clear hh hX
  go_enter Yba.func3, Yba.ntmps3
  go_wp2_with (first
    | (go_at_call 5; refine (clone_any hr hl).mono ?_; rintro e w1 ⟨a', c', rfl, hown1, hbel1⟩)
    | (go_at_call 6; refine (half_some n a' len c' zs w.heap.size h _ h0 h1 hl HH.out hp hle Htl.out hown1).mono ?_; rintro e w2 ⟨rfl, hown2, hgrow2⟩; rw [← HX.out]))
  have hbel2 : Below w.heap.size w w2 := hbel1.grown hgrow2 hbel1.size (fun k e => (own_blk hown1 e).elim (fun _ h => h.2))
  clear hown1 hown2 hgrow2 hbel1
  generalize hhalf : (n + 1) / 2 = hf at *
  have Hhf : Hid (hf = (h : Int)) := HH.out
  clear hhalf HH
  obtain rfl := Hhf.out
  clear Hhf
  go_loop [45] (fun i => ∃ k : Nat, k ≤ len ∧ i = .int .i64 k ∧ Hid (∀ j, j < k → ¬ (QP.less zs (zs.getD j 0) < h ∧ h ≤ QP.leq zs (zs.getD j 0)))) (fun i => len - (intOf i).toNat)
  case atStart => exact ⟨0, Nat.zero_le _, rfl, fun j hj => absurd hj (Nat.not_lt_zero _)⟩
  case round =>
    obtain ⟨k, hk, rfl, Hno⟩ := hrel
    by_cases hlt : k < len
    · obtain ⟨b, off, rfl, hck⟩ := row_cell hr hbel2 hlt
      obtain ⟨v, hv⟩ : ∃ v, v = zs.getD k 0 := ⟨_, rfl⟩
      rw [← hv] at hck
      have HV : Hid (v = zs.getD k 0) := hv
      clear hv
      go_wp2_with fail
      go_loop [10, 11, 51] (fun l g i => ∃ (j ln gn : Nat), j ≤ len ∧ ln ≤ j ∧ gn ≤ j ∧ i = .int .i64 j ∧ l = .int .i64 ln ∧ g = .int .i64 gn ∧ Hid (ln = QP.less (zs.take j) v) ∧ Hid (gn = QP.leq (zs.take j) v)) (fun _ _ i => len - (intOf i).toNat)
      case atStart => exact ⟨0, 0, 0, Nat.zero_le _, Nat.zero_le _, Nat.zero_le _, rfl, rfl, rfl, by simp [Hid, QP.less], by simp [Hid, QP.leq]⟩
      case round =>
        obtain ⟨j, ln, gn, hj, hlj, hgj, rfl, rfl, rfl, Hl, Hg⟩ := hrel
        by_cases hjl : j < len
        · obtain ⟨b', off', e', hcj⟩ := row_cell hr hbel2 hjl
          simp only [Option.some.injEq, Addr.mk.injEq, and_true] at e'
          obtain ⟨rfl, rfl⟩ := e'
          have HL : Hid (QP.less (zs.take (j + 1)) v = QP.less (zs.take j) v + if zs.getD j 0 < v then 1 else 0) := QP.less_take zs v j (by rw [Htl.out]; omega)
          have HG : Hid (QP.leq (zs.take (j + 1)) v = QP.leq (zs.take j) v + if zs.getD j 0 ≤ v then 1 else 0) := QP.leq_take zs v j (by rw [Htl.out]; omega)
          generalize zs.getD j 0 = x at *
          by_cases hx : x < v
          · have hx2 : x ≤ v := by omega
            go_wp2_with fail
            go_round
            case rel => exact ⟨j + 1, ln + 1, gn + 1, by omega, by omega, by omega, by go_num, by go_num, by go_num, by show ln + 1 = _; rw [HL.out, if_pos (by omega), ← Hl.out], by show gn + 1 = _; rw [HG.out, if_pos (by omega), ← Hg.out]⟩
            case measure => simp [intOf]; omega
          · by_cases hx2 : x ≤ v
            · go_wp2_with fail
              go_round
              case rel => exact ⟨j + 1, ln, gn + 1, by omega, by omega, by omega, by go_num, rfl, by go_num, by show ln = _; rw [HL.out, if_neg (by omega), ← Hl.out]; rfl, by show gn + 1 = _; rw [HG.out, if_pos (by omega), ← Hg.out]⟩
              case measure => simp [intOf]; omega
            · go_wp2_with fail
              go_round
              case rel => exact ⟨j + 1, ln, gn, by omega, by omega, by omega, by go_num, rfl, rfl, by show ln = _; rw [HL.out, if_neg (by omega), ← Hl.out]; rfl, by show gn = _; rw [HG.out, if_neg (by omega), ← Hg.out]; rfl⟩
              case measure => simp [intOf]; omega
        · obtain rfl : j = len := by omega
          rw [List.take_of_length_le (by rw [Htl.out]; omega)] at Hl Hg
          by_cases c1 : ln < h
          · have d1 : decide ((ln : Int) < (h : Int)) = true := by simp; omega
            by_cases c2 : h ≤ gn
            · have d2 : decide ((h : Int) ≤ (gn : Int)) = true := by simp; omega
              have hxv : X = v := HX.out.trans (QP.stat_unique hp (by rw [Htl.out]; omega) v (by rw [← Hl.out]; exact c1) (by rw [← Hg.out]; exact c2))
              have hxv' : (X == v) = true := by simpa using hxv
              clear hxv
              go_wp2_with fail
              go_ret
              exact ⟨rfl, hbel2⟩
            · have d2 : decide ((h : Int) ≤ (gn : Int)) = false := by simp; omega
              go_wp2_with fail
              go_round
              case rel =>
                refine ⟨k + 1, by omega, by go_num, fun j' hj' => ?_⟩
                by_cases e : j' = k
                · rw [e, ← HV.out, ← Hl.out, ← Hg.out]; omega
                · exact Hno.out j' (by omega)
              case measure => simp [intOf]; omega
          · have d1 : decide ((ln : Int) < (h : Int)) = false := by simp; omega
            go_wp2_with fail
            go_round
            case rel =>
              refine ⟨k + 1, by omega, by go_num, fun j' hj' => ?_⟩
              by_cases e : j' = k
              · rw [e, ← HV.out, ← Hl.out, ← Hg.out]; omega
              · exact Hno.out j' (by omega)
            case measure => simp [intOf]; omega
    · exfalso
      obtain ⟨j, hj, hjj⟩ := QP.stat_found (zs := zs) (h := h) hp (by rw [Htl.out]; omega)
      rw [Htl.out] at hj
      exact Hno.out j (by omega) hjj

set_option maxHeartbeats 400000 in
set_option maxRecDepth 100000 in
theorem order_none (n : Int) (ao : Option Addr) (len cap : Nat) (zs : List Int) (w : World) (h0 : 0 ≤ n) (h1 : n ≤ 1073741824) (hl : len ≤ 1024) (hc : (n + 1) / 2 = 0 ∨ (len : Int) < (n + 1) / 2) (hr : RowAt w w.heap.size ao len cap zs) :
    Calls Yba.prog 3 #[.int .i64 n, .slice ao len cap] w fun e w' => e = .returned (.bool true) ∧ Below w.heap.size w w' := by
  have e3 : decide ((1024 : Int) < (len : Int)) = false := by simp; omega
  have e4 : decide (n < 0) = false := by simp; omega
  have e5 : decide ((1073741824 : Int) < n) = false := by simp; omega
  have Hc : Hid ((n + 1) / 2 = 0 ∨ (len : Int) < (n + 1) / 2) := hc
  by_cases hz : (n + 1) / 2 = 0
  · have e1 : ((n + 1) / 2 == 0) = true := by simpa using hz
    clear hc hz
    go_enter Yba.func3, Yba.ntmps3
    go_wp2_with (first
      | (go_at_call 5; refine (clone_any hr hl).mono ?_; rintro e w1 ⟨a', c', rfl, hown1, hbel1⟩)
      | (go_at_call 6; refine (half_none n a' len c' _ h0 h1 hl Hc.out).mono ?_; rintro e w2 ⟨rfl, rfl⟩))
    go_ret
    exact ⟨rfl, hbel1⟩
  · have e1 : ((n + 1) / 2 == 0) = false := by simpa using hz
    have e2 : decide ((len : Int) < (n + 1) / 2) = true := by simp; omega
    clear hc hz
    go_enter Yba.func3, Yba.ntmps3
    go_wp2_with (first
      | (go_at_call 5; refine (clone_any hr hl).mono ?_; rintro e w1 ⟨a', c', rfl, hown1, hbel1⟩)
      | (go_at_call 6; refine (half_none n a' len c' _ h0 h1 hl Hc.out).mono ?_; rintro e w2 ⟨rfl, rfl⟩))
    go_ret
    exact ⟨rfl, hbel1⟩

set_option maxHeartbeats 400000 in
theorem order_out (n : Int) (ao : Option Addr) (len cap : Nat) (w : World) (hm : len ≤ maxLen) (hc : 1024 < len ∨ n < 0 ∨ 1073741824 < n) :
    Calls Yba.prog 3 #[.int .i64 n, .slice ao len cap] w fun e w' => e = .returned (.bool true) ∧ Below w.heap.size w w' := by
  unfold maxLen at hm
  by_cases c1 : 1024 < len
  · have e3 : decide ((1024 : Int) < (len : Int)) = true := by simp; omega
    clear hc
    go_enter Yba.func3, Yba.ntmps3
    go_wp2
    go_ret
    exact ⟨rfl, Below.refl _ _⟩
  · have e3 : decide ((1024 : Int) < (len : Int)) = false := by simp; omega
    by_cases c2 : n < 0
    · have e4 : decide (n < 0) = true := by simp; omega
      clear hc
      go_enter Yba.func3, Yba.ntmps3
      go_wp2
      go_ret
      exact ⟨rfl, Below.refl _ _⟩
    · have e4 : decide (n < 0) = false := by simp; omega
      have e5 : decide ((1073741824 : Int) < n) = true := by simp; omega
      clear hc
      go_enter Yba.func3, Yba.ntmps3
      go_wp2
      go_ret
      exact ⟨rfl, Below.refl _ _⟩

/-- the whole -/
theorem order_any (n : Int) (ao : Option Addr) (len cap : Nat) (zs : List Int) (w : World) (hm : len ≤ maxLen) (hr : RowAt w w.heap.size ao len cap zs) :
    Calls Yba.prog 3 #[.int .i64 n, .slice ao len cap] w fun e w' => e = .returned (.bool true) ∧ Below w.heap.size w w' := by
  by_cases c : 1024 < len ∨ n < 0 ∨ 1073741824 < n
  · exact order_out n ao len cap w hm c
  · by_cases d : (n + 1) / 2 = 0 ∨ (len : Int) < (n + 1) / 2
    · exact order_none n ao len cap zs w (by omega) (by omega) (by omega) d hr
    · exact order_some n ao len cap ((n + 1) / 2).toNat zs w (by omega) (by omega) (by omega) (by omega) (by omega) (by omega) hr
end Go.Proofs.Ybulksy
