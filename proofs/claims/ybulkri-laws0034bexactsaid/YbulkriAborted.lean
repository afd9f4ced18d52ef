import Derived.Test.YbulkriProg
import Derived.Test.YbulkriSch
import Derived.Test.YbulkriAppend
import Derived.WalkKit
import Derived.WalkSpells
import Derived.Deep.QuietTactic
import Derived.BigQuiet
import Derived.Sort.OwnSortedInts
import Derived.Test.YbulkriShelf
namespace Go.Proofs.Ybulkri
open Go.RowKit

set_option linter.unusedVariables false

set_option maxHeartbeats 400000 in
theorem aborts_yes (S ge go ne ce no co t : Nat) (E K : Int) (w : World)
    (c0 : w.cell? ⟨S, 0, none⟩ = some (.slice (some ⟨go, 0, none⟩) no co))
    (c3 : w.cell? ⟨S, 3, none⟩ = some (.slice (some ⟨ge, 0, none⟩) ne ce))
    (ht : t < ne) (hne : ne ≤ 4096)
    (cE : w.cell? ⟨ge, t, none⟩ = some (.int .i64 E)) (hE : 0 ≤ E) (hEn : E < no) (hno : no ≤ 4096)
    (cK : w.cell? ⟨go, E.toNat * 3, none⟩ = some (.int .u8 K)) :
    Calls Yba.prog 18 #[.pointer (some ⟨S, 0, none⟩), .int .i64 t] w fun e w' => e = .returned (.bool (K == 4)) ∧ ∃ n, w' = w.drewN n := by
  have hd : decide (0 ≤ E) = true := by simpa using hE
  go_enter Yba.func18, Yba.ntmps18
  go_wp2_with fail
  go_quiet (fail)
  go_wp2
  go_ret
  exact ⟨rfl, _, rfl⟩
set_option maxHeartbeats 400000 in
theorem aborts_no (S ge ne ce t : Nat) (E : Int) (w : World)
    (c3 : w.cell? ⟨S, 3, none⟩ = some (.slice (some ⟨ge, 0, none⟩) ne ce))
    (ht : t < ne) (hne : ne ≤ 4096)
    (cE : w.cell? ⟨ge, t, none⟩ = some (.int .i64 E)) (hE : E < 0) :
    Calls Yba.prog 18 #[.pointer (some ⟨S, 0, none⟩), .int .i64 t] w fun e w' => e = .returned (.bool false) ∧ ∃ n, w' = w.drewN n := by
  have hd : decide (0 ≤ E) = false := by simp; omega
  go_enter Yba.func18, Yba.ntmps18
  go_wp2_with fail
  go_quiet (fail)
  go_wp2
  go_ret
  exact ⟨rfl, _, rfl⟩

/-- 's.aborts(t)', of a schedule as it was built -/
theorem aborts_any {w W : World} {S B : Nat} {vo vt vi ve : Value} {ops : List (Int × Int × Int)} {txns : List Int} {items : List Value} {ends : List Int} {l : List (Int × Int)}
    (hs : Sch w S vo vt vi ve ops txns items ends) (hi : BP.Inv l txns ends ops) (hl : l.length ≤ 1024) (htl : txns.length ≤ 1024) (hb : Below w.heap.size w W) (t : Nat) (ht : t < txns.length) :
    Calls Yba.prog 18 #[.pointer (some ⟨S, 0, none⟩), .int .i64 t] W fun e w' => e = .returned (.bool (BP.ab ends ops t)) ∧ ∃ n, w' = W.drewN n := by
  have hel := hi.len
  have hol := hi.opsLen
  obtain ⟨ge, ce, rfl, hge, _⟩ := own_shape_pos hs.o3 (by omega)
  have c3 : W.cell? ⟨S, 3, none⟩ = some (.slice (some ⟨ge, 0, none⟩) ends.length ce) := (hb.cell (p := ⟨S, 3, none⟩) hs.blk.lt).trans (hs.blk.cellOf rfl)
  have hglt : ge < w.heap.size := by obtain ⟨c, hc, _⟩ := own_blk hs.o3 (k := ge) rfl; exact hc.lt
  have cE : W.cell? ⟨ge, t, none⟩ = some (.int .i64 (ends.getD t 0)) := by
    rw [hb.cell (p := ⟨ge, t, none⟩) hglt, hs.o3.cellAt t (by omega)]
    simp [List.getElem?_eq_getElem (show t < ends.length by omega)]
  rcases hi.fin t ht with ⟨e1, e2⟩ | ⟨p, b, e1, e2, e3, e4⟩
  · refine (aborts_no S ge ends.length ce t (ends.getD t 0) W c3 (by omega) (by omega) cE (by omega)).mono ?_
    rintro e w' ⟨rfl, h⟩
    refine ⟨?_, h⟩
    simp only [BP.ab, e1]
    simp
  · obtain ⟨go, co, rfl, hgo, _⟩ := own_shape_pos hs.o0 (by omega)
    have c0 : W.cell? ⟨S, 0, none⟩ = some (.slice (some ⟨go, 0, none⟩) ops.length co) := (hb.cell (p := ⟨S, 0, none⟩) hs.blk.lt).trans (hs.blk.cellOf rfl)
    have hglt2 : go < w.heap.size := by obtain ⟨c, hc, _⟩ := own_blk hs.o0 (k := go) rfl; exact hc.lt
    refine (aborts_yes S ge go ends.length ce ops.length co t (ends.getD t 0) (ops.getD p (0, 0, 0)).1 W c0 c3 (by omega) (by omega) cE (by omega) (by omega) (by omega) ?_).mono ?_
    · rw [e1, Int.toNat_natCast, hb.cell (p := ⟨go, p * 3, none⟩) hglt2, hs.o0.cellAt (p * 3) (by omega)]
      exact (opCells_get ops p e2).1
    · rintro e w' ⟨rfl, h⟩
      refine ⟨?_, h⟩
      simp only [BP.ab, e1, Int.toNat_natCast]
      simp

theorem own_drewN {w : World} {base : Nat} {e : TypeId} {size : Nat} {v : Value} {n : Nat} {xs : List Value} (h : w.ownsRow base e size v n xs) (q : Nat) : (w.drewN q).ownsRow base e size v n xs := by
  induction q with
  | zero => exact h
  | succ q ih => exact ih

theorem below_drewN' {B : Nat} {w W : World} (h : Below B w W) (q : Nat) : Below B w (W.drewN q) := by
  induction q with
  | zero => exact h
  | succ q ih => exact ih.drew

/-- slices.Sort, of a row that the call owns -/
theorem sort_own {w : World} {base : Nat} {v : Value} {zs : List Int} (hown : w.ownsRow base 3 1 v zs.length (zs.map (Value.int .i64))) (hl : zs.length ≤ 1000000) :
    Calls Yba.prog 19 #[v] w fun e w' => e = .returned (.tuple #[]) ∧ w'.ownsRow base 3 1 v zs.length ((zs.mergeSort fun x y => decide (x ≤ y)).map (Value.int .i64)) ∧ w.grownBy w' v.ownBlock := by
  rcases hown.2 with ⟨rfl, h0⟩ | ⟨g, cap, cur, rfl, hb, hg, hn, hm, hs, ht⟩
  · obtain rfl : zs = [] := List.eq_nil_of_length_eq_zero h0
    refine (Yba.slices_Sort_int_none none 0 w).mono ?_
    rintro e w' ⟨rfl, rfl⟩
    exact ⟨rfl, by simpa using hown, World.grownBy.refl _ _⟩
  · refine (Yba.slices_Sort_int g 0 cap zs w (holds_of_blockI hg (by simpa using ht)) (Array.getElem?_eq_some_iff.1 hg).1 (by omega)).mono ?_
    rintro e w' ⟨rfl, n, os, rfl⟩
    exact ⟨rfl, ownsRow_sortedI (by simp) hb hg hn hm hs, grownBy_sortedI _⟩

set_option maxHeartbeats 1000000 in
set_option maxRecDepth 100000 in
theorem aborted_any {w : World} {S : Nat} {vo vt vi ve : Value} {ops : List (Int × Int × Int)} {txns : List Int} {items : List Value} {ends : List Int} {l : List (Int × Int)}
    (hs : Sch w S vo vt vi ve ops txns items ends) (hi : BP.Inv l txns ends ops) (hl : l.length ≤ 1024) (htl : txns.length ≤ 1024) :
    Calls Yba.prog 9 #[.pointer (some ⟨S, 0, none⟩)] w fun e w' => ∃ v zs, e = .returned v ∧ zs = (BP.gathered txns ends ops txns.length).mergeSort (fun x y => decide (x ≤ y)) ∧ w'.ownsRow w.heap.size 3 1 v zs.length (zs.map (Value.int .i64)) ∧ Below w.heap.size w w' := by
  obtain ⟨at', ct, rfl, hct, hpt⟩ := own_shape hs.o1
  have hc1 : w.cell? ⟨S, 1, none⟩ = some (.slice at' txns.length ct) := hs.blk.cellOf rfl
  have hSlt := hs.blk.lt
  go_enter Yba.func9, Yba.ntmps9
  go_wp2
  go_loopw [3, 11] (fun v i wr => ∃ k : Nat, k ≤ txns.length ∧ i = .int .i64 k ∧ wr.ownsRow w.heap.size 3 1 v (BP.gathered txns ends ops k).length ((BP.gathered txns ends ops k).map (Value.int .i64)) ∧ Below w.heap.size w wr) (fun _ i _ => txns.length - (intOf i).toNat)
  case atStart => exact ⟨0, Nat.zero_le _, rfl, World.ownsRow_nil _ _ _ _, Below.refl _ _⟩
  case round =>
    obtain ⟨k, hk, rfl, hown, hbel⟩ := hrel
    have hgl := BP.gathered_le txns ends ops k
    have hwsz := hbel.size
    by_cases hlt : k < txns.length
    · obtain ⟨gt, rfl, hgt⟩ := hpt (by omega)
      obtain ⟨x, hx⟩ : ∃ x, x = txns.getD k 0 := ⟨_, rfl⟩
      have hcx : wr.cell? ⟨gt, k, none⟩ = some (.int .i64 x) := by
        have hglt : gt < w.heap.size := by obtain ⟨c, hc, _⟩ := own_blk hs.o1 (k := gt) rfl; exact hc.lt
        rw [hbel.cell (p := ⟨gt, k, none⟩) hglt, hs.o1.cellAt k (by omega), hx]
        simp [List.getElem?_eq_getElem hlt]
      have Hx : Hid (x = txns.getD k 0) := hx
      clear hx
      have hca := fun W hb => aborts_any (B := 0) hs hi hl htl (W := W) hb k hlt
      cases hab : BP.ab ends ops k
      · rw [hab] at hca
        have Hca : Hid (∀ W, Below w.heap.size w W → Calls Yba.prog 18 #[.pointer (some ⟨S, 0, none⟩), .int .i64 k] W fun e w' => e = .returned (.bool false) ∧ ∃ n, w' = W.drewN n) := hca
        have Hab : Hid (BP.ab ends ops k = false) := hab
        clear hab hca
        go_wp2_with (go_at_call 18; refine (Hca.out _ hbel).mono ?_; rintro e w' ⟨rfl, q, rfl⟩)
        go_roundw
        case rel =>
          have e : BP.gathered txns ends ops (k + 1) = BP.gathered txns ends ops k := by rw [BP.gathered, Hab.out]; simp
          exact ⟨k + 1, by omega, by go_num, by rw [e]; exact own_drewN hown q, below_drewN' hbel q⟩
        case measure => simp [intOf]; omega
      · rw [hab] at hca
        have Hca : Hid (∀ W, Below w.heap.size w W → Calls Yba.prog 18 #[.pointer (some ⟨S, 0, none⟩), .int .i64 k] W fun e w' => e = .returned (.bool true) ∧ ∃ n, w' = W.drewN n) := hca
        have Hab : Hid (BP.ab ends ops k = true) := hab
        clear hab hca
        go_wp2_with (first
          | (go_at_call 18; refine (Hca.out _ hbel).mono ?_; rintro e w' ⟨rfl, q, rfl⟩; have hown1 := own_drewN hown q; have hbel1 := below_drewN' hbel q; generalize wr.drewN q = W1 at *)
          | (at_builtin; refine app29 rfl (.tmp 19) (.tmp 21) rfl w.heap.size _ _ _ x rfl _ rfl (by simp) hown1 (by omega) hbel1.size ?_; intro g1 c1 w1 hown2 hgrow2 hat2))
        go_roundw
        case rel =>
          have e : BP.gathered txns ends ops (k + 1) = BP.gathered txns ends ops k ++ [x] := by rw [BP.gathered, Hab.out, Hx.out]; simp
          exact ⟨k + 1, by omega, by go_num, by rw [e]; simpa using hown2, grown_below hbel1 hbel1.size hown1 (Nat.le_refl _) hgrow2⟩
        case measure => simp [intOf]; omega
    · obtain rfl : k = txns.length := by omega
      go_wp2_with (go_at_call 19; refine (sort_own hown (by omega)).mono ?_; rintro e w' ⟨rfl, hown', hgrow'⟩)
      go_ret
      refine ⟨_, _, rfl, rfl, by simpa using hown', ?_⟩
      exact hbel.grown hgrow' hwsz (fun k e => by obtain ⟨_, _, h⟩ := own_blk hown e; exact h)
end Go.Proofs.Ybulkri
