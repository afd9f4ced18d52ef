import Derived.Test.YbulktmProg
import Derived.Test.YbulktmRowsAt
import Derived.WalkKit
import Derived.WalkSpells
import Derived.WalkLawsBesides
import Derived.Deep.QuietTactic
import Derived.BigQuiet
namespace Go.Proofs.Ybulktm
open Go.RowKit
set_option linter.unusedVariables false

set_option maxHeartbeats 400000 in
theorem nums_any {w : World} {B : Nat} {ao : Option Addr} {n cap : Nat} {A : Nat → Option Addr} {N C : Nat → Nat} {X : Nat → List Value} (h : Outer w B ao n cap A N C X) (hn : n ≤ 1024) (i : Nat) (hi : i ≤ 1024) :
    Calls Yba.prog 4 #[.slice ao n cap, .int .i64 i] w fun e w' => e = .returned (.slice (A i) (N i) (C i)) ∧ w' = w := by
  by_cases hlt : i < n
  · obtain ⟨b, off, rfl, _, hc⟩ := h.cells (by omega)
    have hck := hc i hlt
    clear hc
    generalize A i = a at *
    generalize N i = m at *
    generalize C i = c at *
    go_enter Yba.func4, Yba.ntmps4
    go_wp2
    go_ret
    exact ⟨rfl, rfl⟩
  · obtain ⟨h1, h2, h3⟩ := h.beyond i hlt
    rw [h1, h2, h3]
    clear h1 h2 h3
    go_enter Yba.func4, Yba.ntmps4
    go_wp2
    go_ret
    exact ⟨rfl, rfl⟩

set_option maxHeartbeats 400000 in
theorem strs_any {w : World} {B : Nat} {ao : Option Addr} {n cap : Nat} {A : Nat → Option Addr} {N C : Nat → Nat} {X : Nat → List Value} (h : Outer w B ao n cap A N C X) (hn : n ≤ 1024) (i : Nat) (hi : i ≤ 1024) :
    Calls Yba.prog 5 #[.slice ao n cap, .int .i64 i] w fun e w' => e = .returned (.slice (A i) (N i) (C i)) ∧ w' = w := by
  by_cases hlt : i < n
  · obtain ⟨b, off, rfl, _, hc⟩ := h.cells (by omega)
    have hck := hc i hlt
    clear hc
    generalize A i = a at *
    generalize N i = m at *
    generalize C i = c at *
    go_enter Yba.func5, Yba.ntmps5
    go_wp2
    go_ret
    exact ⟨rfl, rfl⟩
  · obtain ⟨h1, h2, h3⟩ := h.beyond i hlt
    rw [h1, h2, h3]
    clear h1 h2 h3
    go_enter Yba.func5, Yba.ntmps5
    go_wp2
    go_ret
    exact ⟨rfl, rfl⟩

set_option maxHeartbeats 400000 in
theorem text_any {w : World} {B : Nat} {ao : Option Addr} {n cap : Nat} {A : Nat → Option Addr} {N C : Nat → Nat} {X : Nat → List Value} (h : Outer w B ao n cap A N C X) (hn : n ≤ 1024) (i : Nat) (hi : i ≤ 1024) :
    Calls Yba.prog 6 #[.slice ao n cap, .int .i64 i] w fun e w' => e = .returned (.bool (decide (0 < N i))) ∧ w' = w := by
  by_cases hlt : i < n
  · obtain ⟨b, off, rfl, _, hc⟩ := h.cells (by omega)
    have hck := hc i hlt
    clear hc
    generalize A i = a at *
    generalize hNi : N i = m at *
    generalize C i = c at *
    have d1 : decide ((i : Int) < (n : Int)) = true := by simp; omega
    go_enter Yba.func6, Yba.ntmps6
    go_wp2
    go_ret
    exact ⟨by simp, rfl⟩
  · obtain ⟨h1, h2, h3⟩ := h.beyond i hlt
    rw [h2]
    have d1 : decide ((i : Int) < (n : Int)) = false := by simp; omega
    go_enter Yba.func6, Yba.ntmps6
    go_wp2
    go_ret
    exact ⟨rfl, rfl⟩

/-- one step of the eq functions: the cell -/
theorem SlAt.int {w : World} {B : Nat} {ao : Option Addr} {n cap : Nat} {k : IntKind} {zs : List Int} (h : SlAt w B ao n cap (zs.map (Value.int k))) {j : Nat} (hj : j < n) :
    ∃ b off, ao = some ⟨b, off, none⟩ ∧ b < B ∧ w.cell? ⟨b, off + j, none⟩ = some (.int k (zs.getD j 0)) := by
  obtain ⟨b, off, e, hb, hc⟩ := h.cells (by omega)
  have hl : zs.length = n := by simpa using h.tl
  exact ⟨b, off, e, hb, by rw [hc j hj]; simp [List.getElem?_eq_getElem (show j < zs.length by omega)]⟩

theorem SlAt.str {w : World} {B : Nat} {ao : Option Addr} {n cap : Nat} {ss : List ByteArray} (h : SlAt w B ao n cap (ss.map Value.string)) {j : Nat} (hj : j < n) :
    ∃ b off, ao = some ⟨b, off, none⟩ ∧ b < B ∧ w.cell? ⟨b, off + j, none⟩ = some (.string (ss.getD j ByteArray.empty)) := by
  obtain ⟨b, off, e, hb, hc⟩ := h.cells (by omega)
  have hl : ss.length = n := by simpa using h.tl
  exact ⟨b, off, e, hb, by rw [hc j hj]; simp [List.getElem?_eq_getElem (show j < ss.length by omega)]⟩

set_option maxHeartbeats 400000 in
set_option maxRecDepth 100000 in
theorem eq8_same {w : World} {B1 B2 : Nat} {a1 a2 : Option Addr} {n c1 c2 : Nat} {zs : List Int} (h1 : SlAt w B1 a1 n c1 (zs.map (Value.int .u8))) (h2 : SlAt w B2 a2 n c2 (zs.map (Value.int .u8))) (hn : n ≤ 1024) :
    Calls Yba.prog 9 #[.slice a1 n c1, .slice a2 n c2] w fun e w' => e = .returned (.bool true) ∧ ∃ q, w' = w.drewN q := by
  go_enter Yba.func9, Yba.ntmps9
  go_wp2
  go_loopw [13] (fun i wr => ∃ k : Nat, k ≤ n ∧ i = .int .i64 k ∧ ∃ q, wr = w.drewN q) (fun i _ => n - (intOf i).toNat)
  case atStart => exact ⟨0, Nat.zero_le _, rfl, 0, rfl⟩
  case round =>
    obtain ⟨k, hk, rfl, q, rfl⟩ := hrel
    by_cases hlt : k < n
    · obtain ⟨g1, o1, rfl, _, k1⟩ := h1.int hlt
      obtain ⟨g2, o2, rfl, _, k2⟩ := h2.int hlt
      generalize zs.getD k 0 = z at *
      go_wp2_with fail
      go_quiet (fail)
      go_wp2_with fail
      go_roundw
      case rel => exact ⟨k + 1, by omega, by go_num, _, rfl⟩
      case measure => simp [intOf]; omega
    · go_wp2
      go_ret
      exact ⟨rfl, q, rfl⟩
set_option maxHeartbeats 400000 in
set_option maxRecDepth 100000 in
theorem eq64_same {w : World} {B1 B2 : Nat} {a1 a2 : Option Addr} {n c1 c2 : Nat} {zs : List Int} (h1 : SlAt w B1 a1 n c1 (zs.map (Value.int .u64))) (h2 : SlAt w B2 a2 n c2 (zs.map (Value.int .u64))) (hn : n ≤ 1024) :
    Calls Yba.prog 8 #[.slice a1 n c1, .slice a2 n c2] w fun e w' => e = .returned (.bool true) ∧ ∃ q, w' = w.drewN q := by
  go_enter Yba.func8, Yba.ntmps8
  go_wp2
  go_loopw [13] (fun i wr => ∃ k : Nat, k ≤ n ∧ i = .int .i64 k ∧ ∃ q, wr = w.drewN q) (fun i _ => n - (intOf i).toNat)
  case atStart => exact ⟨0, Nat.zero_le _, rfl, 0, rfl⟩
  case round =>
    obtain ⟨k, hk, rfl, q, rfl⟩ := hrel
    by_cases hlt : k < n
    · obtain ⟨g1, o1, rfl, _, k1⟩ := h1.int hlt
      obtain ⟨g2, o2, rfl, _, k2⟩ := h2.int hlt
      generalize zs.getD k 0 = z at *
      go_wp2_with fail
      go_quiet (fail)
      go_wp2_with fail
      go_roundw
      case rel => exact ⟨k + 1, by omega, by go_num, _, rfl⟩
      case measure => simp [intOf]; omega
    · go_wp2
      go_ret
      exact ⟨rfl, q, rfl⟩

set_option maxHeartbeats 400000 in
set_option maxRecDepth 100000 in
theorem eq32_same {w : World} {B1 B2 : Nat} {a1 a2 : Option Addr} {n c1 c2 : Nat} {zs : List Int} (h1 : SlAt w B1 a1 n c1 (zs.map (Value.int .u32))) (h2 : SlAt w B2 a2 n c2 (zs.map (Value.int .u32))) (hn : n ≤ 1024) :
    Calls Yba.prog 11 #[.slice a1 n c1, .slice a2 n c2] w fun e w' => e = .returned (.bool true) ∧ ∃ q, w' = w.drewN q := by
  go_enter Yba.func11, Yba.ntmps11
  go_wp2
  go_loopw [13] (fun i wr => ∃ k : Nat, k ≤ n ∧ i = .int .i64 k ∧ ∃ q, wr = w.drewN q) (fun i _ => n - (intOf i).toNat)
  case atStart => exact ⟨0, Nat.zero_le _, rfl, 0, rfl⟩
  case round =>
    obtain ⟨k, hk, rfl, q, rfl⟩ := hrel
    by_cases hlt : k < n
    · obtain ⟨g1, o1, rfl, _, k1⟩ := h1.int hlt
      obtain ⟨g2, o2, rfl, _, k2⟩ := h2.int hlt
      generalize zs.getD k 0 = z at *
      go_wp2_with fail
      go_quiet (fail)
      go_wp2_with fail
      go_roundw
      case rel => exact ⟨k + 1, by omega, by go_num, _, rfl⟩
      case measure => simp [intOf]; omega
    · go_wp2
      go_ret
      exact ⟨rfl, q, rfl⟩

set_option maxHeartbeats 400000 in
set_option maxRecDepth 100000 in
theorem eqs_same {w : World} {B1 B2 : Nat} {a1 a2 : Option Addr} {n c1 c2 : Nat} {zs : List ByteArray} (h1 : SlAt w B1 a1 n c1 (zs.map Value.string)) (h2 : SlAt w B2 a2 n c2 (zs.map Value.string)) (hn : n ≤ 1024) :
    Calls Yba.prog 10 #[.slice a1 n c1, .slice a2 n c2] w fun e w' => e = .returned (.bool true) ∧ ∃ q, w' = w.drewN q := by
  go_enter Yba.func10, Yba.ntmps10
  go_wp2
  go_loopw [13] (fun i wr => ∃ k : Nat, k ≤ n ∧ i = .int .i64 k ∧ ∃ q, wr = w.drewN q) (fun i _ => n - (intOf i).toNat)
  case atStart => exact ⟨0, Nat.zero_le _, rfl, 0, rfl⟩
  case round =>
    obtain ⟨k, hk, rfl, q, rfl⟩ := hrel
    by_cases hlt : k < n
    · obtain ⟨g1, o1, rfl, _, k1⟩ := h1.str hlt
      obtain ⟨g2, o2, rfl, _, k2⟩ := h2.str hlt
      generalize zs.getD k ByteArray.empty = z at *
      go_wp2_with fail
      go_quiet (fail)
      go_wp2_with fail
      go_roundw
      case rel => exact ⟨k + 1, by omega, by go_num, _, rfl⟩
      case measure => simp [intOf]; omega
    · go_wp2
      go_ret
      exact ⟨rfl, q, rfl⟩

end Go.Proofs.Ybulktm
