import Derived.Test.YbulksyWalks
namespace Go.Proofs.Ybulksy
open Go.RowKit
set_option linter.unusedVariables false

theorem row_cell {w W : World} {B : Nat} {ao : Option Addr} {len cap : Nat} {zs : List Int} (h : RowAt w B ao len cap zs) (hb : Below B w W) {k : Nat} (hk : k < len) :
    ∃ b off, ao = some ⟨b, off, none⟩ ∧ W.cell? ⟨b, off + k, none⟩ = some (.int .i64 (zs.getD k 0)) := by
  obtain ⟨b, off, e, _, hc⟩ := (h.later hb).cells (by omega)
  exact ⟨b, off, e, hc k hk⟩

theorem below_drewN' {B : Nat} {w W : World} (h : Below B w W) (q : Nat) : Below B w (W.drewN q) := by
  induction q with
  | zero => exact h
  | succ q ih => exact ih.drew

set_option maxHeartbeats 1000000 in
set_option maxRecDepth 100000 in
theorem sorts_none (n : Int) (ao : Option Addr) (len cap : Nat) (zs : List Int) (w : World) (h0 : 0 ≤ n) (h1 : n ≤ 1073741824) (hl : len ≤ 1024) (hc : (n + 1) / 2 = 0 ∨ (len : Int) < (n + 1) / 2) (hr : RowAt w w.heap.size ao len cap zs) :
    Calls Yba.prog 4 #[.int .i64 n, .slice ao len cap] w fun e w' => e = .returned (.bool true) ∧ Below w.heap.size w w' := by
  have e3 : decide ((1024 : Int) < (len : Int)) = false := by simp; omega
  have e4 : decide (n < 0) = false := by simp; omega
  have e5 : decide ((1073741824 : Int) < n) = false := by simp; omega
  have Hc : Hid ((n + 1) / 2 = 0 ∨ (len : Int) < (n + 1) / 2) := hc
  by_cases hz : (n + 1) / 2 = 0
  · have e1 : ((n + 1) / 2 == 0) = true := by simpa using hz
    clear hc hz
    go_enter Yba.func4, Yba.ntmps4
    go_wp2_with (first
      | (go_at_call 5; refine (clone_any hr hl).mono ?_; rintro e w1 ⟨a', c', rfl, hown1, hbel1⟩)
      | (go_at_call 6; refine (half_none n a' len c' _ h0 h1 hl Hc.out).mono ?_; rintro e w2 ⟨rfl, rfl⟩))
    have hr2 := own_row hown1 hr.tl
    have Htl : Hid (zs.length = len) := hr.tl
    go_loopw [45] (fun i wr => ∃ k : Nat, k ≤ len ∧ i = .int .i64 k ∧ ∃ q, wr = w2.drewN q) (fun i _ => len - (intOf i).toNat)
    case atStart => exact ⟨0, Nat.zero_le _, rfl, 0, rfl⟩
    case round =>
      obtain ⟨k, hk, rfl, q, rfl⟩ := hrel
      by_cases hlt : k < len
      · obtain ⟨b1, o1, rfl, k1⟩ := row_cell hr hbel1 hlt
        obtain ⟨b2, o2, rfl, k2⟩ := row_cell hr2 (Below.refl _ _) hlt
        generalize zs.getD k 0 = z at *
        go_wp2_with fail
        go_quiet (fail)
        go_wp2_with fail
        go_roundw
        case rel => exact ⟨k + 1, by omega, by go_num, _, rfl⟩
        case measure => simp [intOf]; omega
      · go_wp2
        go_ret
        exact ⟨rfl, below_drewN' hbel1 q⟩
  · have e1 : ((n + 1) / 2 == 0) = false := by simpa using hz
    have e2 : decide ((len : Int) < (n + 1) / 2) = true := by simp; omega
    clear hc hz
    go_enter Yba.func4, Yba.ntmps4
    go_wp2_with (first
      | (go_at_call 5; refine (clone_any hr hl).mono ?_; rintro e w1 ⟨a', c', rfl, hown1, hbel1⟩)
      | (go_at_call 6; refine (half_none n a' len c' _ h0 h1 hl Hc.out).mono ?_; rintro e w2 ⟨rfl, rfl⟩))
    have hr2 := own_row hown1 hr.tl
    have Htl : Hid (zs.length = len) := hr.tl
    go_loopw [45] (fun i wr => ∃ k : Nat, k ≤ len ∧ i = .int .i64 k ∧ ∃ q, wr = w2.drewN q) (fun i _ => len - (intOf i).toNat)
    case atStart => exact ⟨0, Nat.zero_le _, rfl, 0, rfl⟩
    case round =>
      obtain ⟨k, hk, rfl, q, rfl⟩ := hrel
      by_cases hlt : k < len
      · obtain ⟨b1, o1, rfl, k1⟩ := row_cell hr hbel1 hlt
        obtain ⟨b2, o2, rfl, k2⟩ := row_cell hr2 (Below.refl _ _) hlt
        generalize zs.getD k 0 = z at *
        go_wp2_with fail
        go_quiet (fail)
        go_wp2_with fail
        go_roundw
        case rel => exact ⟨k + 1, by omega, by go_num, _, rfl⟩
        case measure => simp [intOf]; omega
      · go_wp2
        go_ret
        exact ⟨rfl, below_drewN' hbel1 q⟩

set_option maxHeartbeats 1000000 in
set_option maxRecDepth 100000 in
theorem sorts_some (n : Int) (ao : Option Addr) (len cap h : Nat) (zs : List Int) (w : World) (h0 : 0 ≤ n) (h1 : n ≤ 1073741824) (hl : len ≤ 1024) (hh : (n + 1) / 2 = (h : Int)) (hp : 1 ≤ h) (hle : h ≤ len) (hr : RowAt w w.heap.size ao len cap zs) :
    Calls Yba.prog 4 #[.int .i64 n, .slice ao len cap] w fun e w' => e = .returned (.bool true) ∧ Below w.heap.size w w' := by
  have e1 : ((n + 1) / 2 == 0) = false := by simp; omega
  have e2 : decide ((len : Int) < (n + 1) / 2) = false := by simp; omega
  have e3 : decide ((1024 : Int) < (len : Int)) = false := by simp; omega
  have e4 : decide (n < 0) = false := by simp; omega
  have e5 : decide ((1073741824 : Int) < n) = false := by simp; omega
  have HH : Hid ((n + 1) / 2 = (h : Int)) := hh
  have Htl : Hid (zs.length = len) := hr.tl
  clear hh
  go_enter Yba.func4, Yba.ntmps4
  go_wp2_with (first
    | (go_at_call 5; refine (clone_any hr hl).mono ?_; rintro e w1 ⟨a', c', rfl, hown1, hbel1⟩)
    | (go_at_call 6; refine (half_some n a' len c' zs w.heap.size h _ h0 h1 hl HH.out hp hle Htl.out hown1).mono ?_; rintro e w2 ⟨rfl, hown2, hgrow2⟩))
  have hbel2 : Below w.heap.size w w2 := hbel1.grown hgrow2 hbel1.size (fun k e => (own_blk hown1 e).elim (fun _ h => h.2))
  have hr2 := own_row hown2 ((QP.srt_length zs).trans Htl.out)
  clear hown1 hown2 hgrow2 hbel1
  go_loopw [8] (fun i wr => ∃ k : Nat, 1 ≤ k ∧ k ≤ len ∧ i = .int .i64 k ∧ ∃ q, wr = w2.drewN q) (fun i _ => len - (intOf i).toNat)
  case atStart => exact ⟨1, by omega, by omega, rfl, 0, rfl⟩
  case round =>
    obtain ⟨k, hk1, hk, rfl, q, rfl⟩ := hrel
    by_cases hlt : k < len
    · obtain ⟨b1, o1, rfl, k1⟩ := row_cell hr2 (Below.refl _ _) hlt
      obtain ⟨b2, o2, e', k2⟩ := row_cell hr2 (Below.refl _ _) (show k - 1 < len by omega)
      simp only [Option.some.injEq, Addr.mk.injEq, and_true] at e'
      obtain ⟨rfl, rfl⟩ := e'
      have hs := QP.srt_step zs (k - 1) (by rw [Htl.out]; omega)
      rw [show k - 1 + 1 = k by omega] at hs
      generalize (QP.srt zs).getD k 0 = x at *
      generalize (QP.srt zs).getD (k - 1) 0 = y at *
      go_wp2_with fail
      go_quiet (fail)
      go_wp2_with fail
      go_roundw
      case rel => exact ⟨k + 1, by omega, by omega, by go_num, _, rfl⟩
      case measure => simp [intOf]; omega
    · go_wp2_with fail
      have hbel3 := below_drewN' hbel2 q
      have hr3 := hr2.later (below_drewN' (Below.refl w2.heap.size w2) q)
      generalize w2.drewN q = w3 at *
      have hr4 := hr.later hbel3
      clear hr2 hbel2
      go_loop [76] (fun i => ∃ k : Nat, k ≤ len ∧ i = .int .i64 k) (fun i => len - (intOf i).toNat)
      case atStart => exact ⟨0, Nat.zero_le _, rfl⟩
      case round =>
        obtain ⟨k, hk, rfl⟩ := hrel
        by_cases hlt : k < len
        · obtain ⟨b1, o1, rfl, k1⟩ := row_cell hr4 (Below.refl _ _) hlt
          generalize zs.getD k 0 = v at *
          go_wp2_with fail
          refine (count_any v _ len cap zs _ w3 hl hr4).mono ?_
          rintro e w4 ⟨rfl, rfl⟩
          go_wp2_with fail
          refine (count_any v _ len _ _ _ _ hl hr3).mono ?_
          rintro e w5 ⟨rfl, rfl⟩
          rw [QP.cnt_srt]
          have hcb := QP.cnt_le zs v
          go_wp2_with fail
          go_round
          case rel => exact ⟨k + 1, by omega, by go_num⟩
          case measure => simp [intOf]; omega
        · go_wp2
          go_ret
          exact ⟨rfl, hbel3⟩

set_option maxHeartbeats 400000 in
theorem sorts_out (n : Int) (ao : Option Addr) (len cap : Nat) (w : World) (hm : len ≤ maxLen) (hc : 1024 < len ∨ n < 0 ∨ 1073741824 < n) :
    Calls Yba.prog 4 #[.int .i64 n, .slice ao len cap] w fun e w' => e = .returned (.bool true) ∧ Below w.heap.size w w' := by
  unfold maxLen at hm
  by_cases c1 : 1024 < len
  · have e3 : decide ((1024 : Int) < (len : Int)) = true := by simp; omega
    clear hc
    go_enter Yba.func4, Yba.ntmps4
    go_wp2
    go_ret
    exact ⟨rfl, Below.refl _ _⟩
  · have e3 : decide ((1024 : Int) < (len : Int)) = false := by simp; omega
    by_cases c2 : n < 0
    · have e4 : decide (n < 0) = true := by simp; omega
      clear hc
      go_enter Yba.func4, Yba.ntmps4
      go_wp2
      go_ret
      exact ⟨rfl, Below.refl _ _⟩
    · have e4 : decide (n < 0) = false := by simp; omega
      have e5 : decide ((1073741824 : Int) < n) = true := by simp; omega
      clear hc
      go_enter Yba.func4, Yba.ntmps4
      go_wp2
      go_ret
      exact ⟨rfl, Below.refl _ _⟩

/-- the whole -/
theorem sorts_any (n : Int) (ao : Option Addr) (len cap : Nat) (zs : List Int) (w : World) (hm : len ≤ maxLen) (hr : RowAt w w.heap.size ao len cap zs) :
    Calls Yba.prog 4 #[.int .i64 n, .slice ao len cap] w fun e w' => e = .returned (.bool true) ∧ Below w.heap.size w w' := by
  by_cases c : 1024 < len ∨ n < 0 ∨ 1073741824 < n
  · exact sorts_out n ao len cap w hm c
  · by_cases d : (n + 1) / 2 = 0 ∨ (len : Int) < (n + 1) / 2
    · exact sorts_none n ao len cap zs w (by omega) (by omega) (by omega) d hr
    · exact sorts_some n ao len cap ((n + 1) / 2).toNat zs w (by omega) (by omega) (by omega) (by omega) (by omega) (by omega) hr
end Go.Proofs.Ybulksy
