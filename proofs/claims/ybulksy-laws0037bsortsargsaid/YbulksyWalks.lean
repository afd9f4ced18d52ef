import Derived.Test.YbulksyProg
import Derived.Test.YbulksyHeap
import Derived.Test.YbulksyPlain
import Derived.Test.YbulksyShelf
import Derived.Sort.OwnSortedInts
import Derived.WalkKit
import Derived.WalkSpells
import Derived.ChangeShapes
import Derived.Deep.QuietTactic
import Derived.BigQuiet
namespace Go.Proofs.Ybulksy
open Go.RowKit
set_option linter.unusedVariables false

/-- what is known of the slice that came in -/
structure RowAt (w : World) (B : Nat) (ao : Option Addr) (len cap : Nat) (zs : List Int) : Prop where
  tl : zs.length = len
  nil : ao = none → len = 0 ∧ cap = 0
  cells : 0 < len → ∃ b off, ao = some ⟨b, off, none⟩ ∧ b < B ∧ ∀ j, j < len → w.cell? ⟨b, off + j, none⟩ = some (.int .i64 (zs.getD j 0))

theorem RowAt.later {w W : World} {B : Nat} {ao : Option Addr} {len cap : Nat} {zs : List Int} (h : RowAt w B ao len cap zs) (hb : Below B w W) : RowAt W B ao len cap zs :=
  ⟨h.tl, h.nil, fun hp => by
    obtain ⟨b, off, e, hlt, hc⟩ := h.cells hp
    exact ⟨b, off, e, hlt, fun j hj => (hb.cell (p := ⟨b, off + j, none⟩) hlt).trans (hc j hj)⟩⟩

theorem own_below {w w' : World} {base : Nat} {e : TypeId} {size : Nat} {v : Value} {n : Nat} {xs : List Value} (h : w.ownsRow base e size v n xs) (hb : Below w.heap.size w w') : w'.ownsRow base e size v n xs :=
  h.kept (row := none) ⟨hb.os, hb.tape, hb.output, hb.size, fun k hk _ => hb.block k hk⟩ (by cases hv : v.ownBlock <;> simp)

/-- an owned row, as a row -/
theorem own_row {w : World} {base n cap : Nat} {ao : Option Addr} {zs : List Int} (h : w.ownsRow base 2 1 (.slice ao n cap) n (zs.map (Value.int .i64))) (hn : zs.length = n) : RowAt w w.heap.size ao n cap zs := by
  refine ⟨hn, fun e => ?_, fun hp => ?_⟩
  · subst e
    rcases h.2 with ⟨e, h0⟩ | ⟨g, c, cur, e, _⟩
    · simp only [Value.slice.injEq] at e; exact ⟨e.2.1, e.2.2⟩
    · simp at e
  · obtain ⟨g, c, e, hb, _⟩ := own_shape_pos h hp
    simp only [Value.slice.injEq, true_and] at e
    obtain ⟨rfl, rfl⟩ := e
    refine ⟨g, 0, rfl, (h.lt g rfl).2, fun j hj => ?_⟩
    rw [Nat.zero_add, h.cellAt j (by omega)]
    simp [List.getElem?_eq_getElem (show j < zs.length by omega)]

/-- slices.Clone -/
theorem clone_any {w : World} {B : Nat} {ao : Option Addr} {len cap : Nat} {zs : List Int} (h : RowAt w B ao len cap zs) (hl : len ≤ 1024) :
    Calls Yba.prog 5 #[.slice ao len cap] w fun e w' => ∃ a' c', e = .returned (.slice a' len c') ∧ w'.ownsRow w.heap.size 2 1 (.slice a' len c') len (zs.map (Value.int .i64)) ∧ Below w.heap.size w w' := by
  have htl := h.tl
  by_cases hp : 0 < len
  · obtain ⟨b, off, rfl, _, hc⟩ := h.cells hp
    refine (Yba.slices_Clone_int b off len cap zs w (by omega) (by omega) (fun j hj => hc j (by omega))).mono ?_
    rintro e w' ⟨v', rfl, ho, _, hb⟩
    rw [List.take_of_length_le (by omega)] at ho
    obtain ⟨a', c', rfl, _⟩ := own_shape ho
    exact ⟨a', c', rfl, ho, hb⟩
  · obtain rfl : len = 0 := by omega
    obtain rfl : zs = [] := List.eq_nil_of_length_eq_zero htl
    cases ao with
    | none =>
      refine (Yba.slices_Clone_int_nil 0 cap w).mono ?_
      rintro e w' ⟨rfl, rfl⟩
      exact ⟨none, 0, rfl, World.ownsRow_nil _ _ _ _, Below.refl _ _⟩
    | some a =>
      refine (Yba.slices_Clone_int_zero a cap w).mono ?_
      rintro e w' ⟨v', rfl, ho, _, hb⟩
      obtain ⟨a', c', rfl, _⟩ := own_shape ho
      exact ⟨a', c', rfl, ho, hb⟩

/-- slices.Sort, of a row that the call owns -/
theorem sort_own {w : World} {base n : Nat} {v : Value} {zs : List Int} (hn : n = zs.length) (hown : w.ownsRow base 2 1 v n (zs.map (Value.int .i64))) (hl : zs.length ≤ 1000000) :
    Calls Yba.prog 8 #[v] w fun e w' => e = .returned (.tuple #[]) ∧ w'.ownsRow base 2 1 v n ((QP.srt zs).map (Value.int .i64)) ∧ w.grownBy w' v.ownBlock := by
  subst hn
  rcases hown.2 with ⟨rfl, h0⟩ | ⟨g, cap, cur, rfl, hb, hg, hn, hm, hs, ht⟩
  · obtain rfl : zs = [] := List.eq_nil_of_length_eq_zero h0
    refine (Yba.slices_Sort_int_none none 0 w).mono ?_
    rintro e w' ⟨rfl, rfl⟩
    exact ⟨rfl, by simpa [QP.srt] using hown, World.grownBy.refl _ _⟩
  · refine (Yba.slices_Sort_int g 0 cap zs w (holds_of_blockI hg (by simpa using ht)) (Array.getElem?_eq_some_iff.1 hg).1 (by omega)).mono ?_
    rintro e w' ⟨rfl, n, os, rfl⟩
    exact ⟨rfl, ownsRow_sortedI (by simp) hb hg hn hm hs, grownBy_sortedI _⟩

set_option maxHeartbeats 400000 in
/-- halfExpired where nothing is asked of the slice -/
theorem half_none (n : Int) (ao : Option Addr) (len cap : Nat) (w : World) (h0 : 0 ≤ n) (h1 : n ≤ 1073741824) (hl : len ≤ 1024) (hc : (n + 1) / 2 = 0 ∨ (len : Int) < (n + 1) / 2) :
    Calls Yba.prog 6 #[.int .i64 n, .slice ao len cap] w fun e w' => e = .returned (.int .i64 0) ∧ w' = w := by
  by_cases hz : (n + 1) / 2 = 0
  · have e1 : ((n + 1) / 2 == 0) = true := by simpa using hz
    clear hc hz
    go_enter Yba.func6, Yba.ntmps6
    go_wp2
    go_ret
    exact ⟨rfl, rfl⟩
  · have e1 : ((n + 1) / 2 == 0) = false := by simpa using hz
    have e2 : decide ((len : Int) < (n + 1) / 2) = true := by simp; omega
    clear hc hz
    go_enter Yba.func6, Yba.ntmps6
    go_wp2
    go_ret
    exact ⟨rfl, rfl⟩

theorem half_cell {w : World} {base g len cap h : Nat} {ss : List Int} {n : Int} (hown : w.ownsRow base 2 1 (.slice (some ⟨g, 0, none⟩) len cap) len (ss.map (Value.int .i64))) (hh : (n + 1) / 2 = (h : Int)) (hs : ss.length = len) (hle : h ≤ len) (hp : 1 ≤ h) :
    w.cell? ⟨g, ((n + 1) / 2).toNat - 1, none⟩ = some (.int .i64 (ss.getD (h - 1) 0)) := by
  rw [hh, Int.toNat_natCast, hown.cellAt (h - 1) (by omega)]
  simp [List.getElem?_eq_getElem (show h - 1 < ss.length by omega)]

set_option maxHeartbeats 400000 in
/-- halfExpired where it sorts -/
theorem half_some (n : Int) (ao : Option Addr) (len cap : Nat) (zs : List Int) (base h : Nat) (w : World) (h0 : 0 ≤ n) (h1 : n ≤ 1073741824) (hl : len ≤ 1024) (hh : (n + 1) / 2 = (h : Int)) (hp : 1 ≤ h) (hle : h ≤ len) (hz : zs.length = len)
    (hown : w.ownsRow base 2 1 (.slice ao len cap) len (zs.map (Value.int .i64))) :
    Calls Yba.prog 6 #[.int .i64 n, .slice ao len cap] w fun e w' => e = .returned (.int .i64 ((QP.srt zs).getD (h - 1) 0)) ∧ w'.ownsRow base 2 1 (.slice ao len cap) len ((QP.srt zs).map (Value.int .i64)) ∧ w.grownBy w' (Value.ownBlock (.slice ao len cap)) := by
  obtain ⟨g, c, e, hb, _⟩ := own_shape_pos hown (by omega)
  simp only [Value.slice.injEq, true_and] at e
  obtain ⟨rfl, rfl⟩ := e
  obtain ⟨X, hX⟩ : ∃ X, X = (QP.srt zs).getD (h - 1) 0 := ⟨_, rfl⟩
  have HX : Hid (X = (QP.srt zs).getD (h - 1) 0) := hX
  clear hX
  have e1 : ((n + 1) / 2 == 0) = false := by simp; omega
  have e2 : decide ((len : Int) < (n + 1) / 2) = false := by simp; omega
  have HH : Hid ((n + 1) / 2 = (h : Int)) := hh
  have b1 : 1 ≤ (n + 1) / 2 := by omega
  have b2 : (n + 1) / 2 ≤ (len : Int) := by omega
  clear hh
  go_enter Yba.func6, Yba.ntmps6
  go_wp2_with (go_at_call 8; refine (sort_own hz.symm hown (by omega)).mono ?_; rintro e w1 ⟨rfl, hown1, hgrow1⟩; have hck : w1.cell? ⟨g, ((n + 1) / 2).toNat - 1, none⟩ = some (.int .i64 X) := by rw [HX.out]; exact half_cell hown1 HH.out (by rw [QP.srt_length]; omega) (by omega) hp)
  go_ret
  refine ⟨?_, hown1, hgrow1⟩
  rw [← HX.out]
  rfl

set_option maxHeartbeats 400000 in
set_option maxRecDepth 100000 in
/-- zzs0037bcount -/
theorem count_any (v : Int) (ao : Option Addr) (len cap : Nat) (zs : List Int) (B : Nat) (w : World) (hl : len ≤ 1024) (hr : RowAt w B ao len cap zs) :
    Calls Yba.prog 7 #[.slice ao len cap, .int .i64 v] w fun e w' => e = .returned (.int .i64 (QP.cnt zs v)) ∧ w' = w := by
  have htl := hr.tl
  have Htl : Hid (zs.length = len) := htl
  clear htl
  go_enter Yba.func7, Yba.ntmps7
  go_wp2
  go_loop [5, 10] (fun c i => ∃ (k m : Nat), k ≤ len ∧ m ≤ k ∧ i = .int .i64 k ∧ c = .int .i64 m ∧ Hid (m = QP.cnt (zs.take k) v)) (fun _ i => len - (intOf i).toNat)
  case atStart => exact ⟨0, 0, Nat.zero_le _, Nat.zero_le _, rfl, rfl, by simp [Hid, QP.cnt]⟩
  case round =>
    obtain ⟨k, m, hk, hmk, rfl, rfl, Hm⟩ := hrel
    by_cases hlt : k < len
    · obtain ⟨b, off, rfl, _, hc⟩ := hr.cells (by omega)
      have hck := hc k hlt
      have Hs := QP.cnt_take zs v k (by rw [Htl.out]; omega)
      have HS : Hid (QP.cnt (zs.take (k + 1)) v = QP.cnt (zs.take k) v + if zs.getD k 0 = v then 1 else 0) := Hs
      clear hc Hs
      generalize zs.getD k 0 = x at *
      by_cases he : x = v
      · have he' : (x == v) = true := by simpa using he
        have HE : Hid (x = v) := he
        clear he
        go_wp2
        go_round
        case rel => exact ⟨k + 1, m + 1, by omega, by omega, by go_num, by go_num, by show m + 1 = _; rw [HS.out, if_pos HE.out, ← Hm.out]⟩
        case measure => simp [intOf]; omega
      · have he' : (x == v) = false := by simpa using he
        go_wp2
        go_round
        case rel => exact ⟨k + 1, m, by omega, by omega, by go_num, rfl, by show m = _; rw [HS.out, if_neg he, ← Hm.out]; rfl⟩
        case measure => simp [intOf]; omega
    · obtain rfl : k = len := by omega
      go_wp2
      go_ret
      rw [List.take_of_length_le (by rw [Htl.out]; omega)] at Hm
      exact ⟨by rw [Hm.out]; rfl, rfl⟩

/-- the row, out of what is read of the argument -/
theorem row_of {w : World} {a : Option Addr} {len cap : Nat} {zs : List Int}
    (h : (a = none ∧ len = 0 ∧ cap = 0 ∧ zs = []) ∨
      ∃ x, a = some x ∧ len ≤ cap ∧ cap ≤ maxLen ∧ zs.length = cap ∧ (∀ i, i < zs.length → w.cell? (x.add i) = some (.int .i64 (zs.getD i 0))) ∧ ∀ n ∈ zs, (Lit.int .i64 n).wf = true) :
    len ≤ maxLen ∧ RowAt w w.heap.size a len cap (zs.take len) := by
  rcases h with ⟨rfl, rfl, rfl, rfl⟩ | ⟨x, rfl, hlc, hcm, hzl, hc, _⟩
  · exact ⟨Nat.zero_le _, rfl, fun _ => ⟨rfl, rfl⟩, fun h => absurd h (Nat.lt_irrefl _)⟩
  · refine ⟨by omega, by simp; omega, fun e => (by cases e), fun hp => ?_⟩
    obtain ⟨b, off, spot⟩ := x
    have h0 := hc 0 (by omega)
    have hspot : spot = none := by simpa [Addr.add] using World.cell?_spot h0
    subst hspot
    refine ⟨b, off, rfl, ?_, fun j hj => ?_⟩
    · exact World.block_lt_of_cell? w _ (by simpa [Addr.add] using h0)
    · have := hc j (by omega)
      rw [Go.WideShapes.add_plain] at this
      rw [this]
      simp [List.getElem?_take_of_lt hj]
end Go.Proofs.Ybulksy
