import Derived.Test.YbulkskProg
import Derived.Test.YbulkskHeap
import Derived.Test.YbulkskBits
import Derived.Test.YbulkskPlain
import Derived.WalkKit
import Derived.WalkSpells
import Derived.Deep.QuietTactic
import Derived.BigQuiet
namespace Go.Proofs.Ybulksk
open Go.RowKit
set_option linter.unusedVariables false

theorem setCell_drewN (w : World) (q : Nat) (a : Addr) (v : Value) : (w.drewN q).setCell a v = (w.setCell a v).drewN q := by
  induction q with
  | zero => rfl
  | succ q ih => show ((w.drewN q).setCell a v).drew = ((w.setCell a v).drewN q).drew; rw [ih]
theorem drewN_drewN (w : World) (q r : Nat) : (w.drewN q).drewN r = w.drewN (q + r) := by
  induction r with
  | zero => rfl
  | succ r ih => show ((w.drewN q).drewN r).drew = (w.drewN (q + r)).drew; rw [ih]
theorem drewN_setCell_drewN (w : World) (q r : Nat) (a : Addr) (v : Value) : ((w.drewN q).setCell a v).drewN r = (w.setCell a v).drewN (q + r) := by
  rw [setCell_drewN, drewN_drewN]

set_option maxHeartbeats 400000 in
set_option maxRecDepth 100000 in
theorem readAny_failed (D : Nat) (v : Value) (w : World) (hD : Blk w D 26 #[v, .bool true]) :
    Calls Yba.prog 9 #[.pointer (some ⟨D, 0, none⟩)] w fun e w' => e = .returned (.tuple #[.int .u8 0, .slice none 0 0]) ∧ w' = w.setCell ⟨D, 1, none⟩ (.bool true) := by
  have c1 : w.cell? ⟨D, 1, none⟩ = some (.bool true) := hD.cellOf rfl
  have f1 := hD.frozen 1
  go_enter Yba.func9, Yba.ntmps9
  go_wp2
  go_ret2
  exact ⟨rfl, rfl⟩

set_option maxHeartbeats 400000 in
set_option maxRecDepth 100000 in
theorem readAny_short (D g o len cap n : Nat) (b0 : Int) (w : World) (hD : Blk w D 26 #[.slice (some ⟨g, o, none⟩) len cap, .bool false])
    (hlen : n + 2 ≤ len) (hcap : len < cap) (hcm : cap ≤ 100000) (hb1 : 0 ≤ b0) (hb2 : b0 ≤ 255) (hb3 : b0 % 32 ≠ 31) (hn : n < 128)
    (k0 : w.cell? ⟨g, o, none⟩ = some (.int .u8 b0)) (k1 : w.cell? ⟨g, o + 1, none⟩ = some (.int .u8 n)) :
    Calls Yba.prog 9 #[.pointer (some ⟨D, 0, none⟩)] w fun e w' => e = .returned (.tuple #[.int .u8 b0, .slice (some ⟨g, o + 2, none⟩) n (cap - 2)]) ∧
      ∃ q, w' = (w.setCell ⟨D, 0, none⟩ (.slice (some ⟨g, o + 2 + n, none⟩) (len - 2 - n) (cap - 2 - n))).drewN q := by
  have c0 : w.cell? ⟨D, 0, none⟩ = some (.slice (some ⟨g, o, none⟩) len cap) := hD.cellOf rfl
  have c1 : w.cell? ⟨D, 1, none⟩ = some (.bool false) := hD.cellOf rfl
  have f0 := hD.frozen 0
  have e2 : decide ((len : Int) < 2) = false := by simp; omega
  have e31 : (bits .and .u8 b0 31 == 31) = false := by rw [and31 b0 hb1 hb2]; simpa using hb3
  have e128 : bits .and .u64 (n : Int) 128 = 0 := by rw [and128_u64 _ (by omega) (by omega), if_pos (by omega)]
  go_enter Yba.func9, Yba.ntmps9
  go_wp2_with fail
  go_quiet (fail)
  go_wp2_with fail
  go_quiet (fail)
  go_wp2_with fail
  go_ret2
  exact ⟨rfl, _, drewN_setCell_drewN _ _ _ _ _⟩

set_option maxHeartbeats 400000 in
set_option maxRecDepth 100000 in
theorem readAny_long (D g o len cap n : Nat) (b0 : Int) (w : World) (hD : Blk w D 26 #[.slice (some ⟨g, o, none⟩) len cap, .bool false])
    (hlen : n + 3 ≤ len) (hcap : len < cap) (hcm : cap ≤ 100000) (hb1 : 0 ≤ b0) (hb2 : b0 ≤ 255) (hb3 : b0 % 32 ≠ 31) (hn : n < 128)
    (k0 : w.cell? ⟨g, o, none⟩ = some (.int .u8 b0)) (k1 : w.cell? ⟨g, o + 1, none⟩ = some (.int .u8 129)) (k2 : w.cell? ⟨g, o + 2, none⟩ = some (.int .u8 n)) :
    Calls Yba.prog 9 #[.pointer (some ⟨D, 0, none⟩)] w fun e w' => e = .returned (.tuple #[.int .u8 b0, .slice (some ⟨g, o + 2 + 1, none⟩) n (cap - 2 - 1)]) ∧
      ∃ q, w' = (w.setCell ⟨D, 0, none⟩ (.slice (some ⟨g, o + 2 + 1 + n, none⟩) (len - 2 - 1 - n) (cap - 2 - 1 - n))).drewN q := by
  have c0 : w.cell? ⟨D, 0, none⟩ = some (.slice (some ⟨g, o, none⟩) len cap) := hD.cellOf rfl
  have c1 : w.cell? ⟨D, 1, none⟩ = some (.bool false) := hD.cellOf rfl
  have f0 := hD.frozen 0
  have e2 : decide ((len : Int) < 2) = false := by simp; omega
  have e31 : (bits .and .u8 b0 31 == 31) = false := by rw [and31 b0 hb1 hb2]; simpa using hb3
  have e128 : bits .and .u64 (129 : Int) 128 = 128 := by rw [and128_u64 _ (by omega) (by omega), if_neg (by omega)]
  have e127 : bits .and .u64 (129 : Int) 127 = 1 := by rw [and127_u64 _ (by omega) (by omega)]; rfl
  have eor := or_u64_zero (n : Int) (by omega) (by omega)
  go_enter Yba.func9, Yba.ntmps9
  go_wp2_with fail
  go_quiet (fail)
  go_wp2_with fail
  go_loop [5, 78] (fun m i => (m = .int .u64 0 ∧ i = .int .i64 0) ∨ (m = .int .u64 n ∧ i = .int .i64 1)) (fun _ i => 1 - (intOf i).toNat)
  case atStart => exact .inl ⟨rfl, rfl⟩
  case round =>
    rcases hrel with ⟨rfl, rfl⟩ | ⟨rfl, rfl⟩
    · go_wp2_with fail
      go_round
      case rel => exact .inr ⟨by simp, rfl⟩
      case measure => simp [intOf]
    · go_wp2_with fail
      go_quiet (fail)
      go_wp2_with fail
      go_ret2
      exact ⟨rfl, _, drewN_setCell_drewN _ _ _ _ _⟩

/-- 'read(tag)': the tag fits -/
theorem read_ok {D g o n c : Nat} {tag : Int} {w : World} {v : Value} (h1 : 0 ≤ tag) (h2 : tag ≤ 255)
    (h : Calls Yba.prog 9 #[.pointer (some ⟨D, 0, none⟩)] w fun e w' => e = .returned (.tuple #[.int .u8 tag, .slice (some ⟨g, o, none⟩) n c]) ∧ ∃ q, w' = (w.setCell ⟨D, 0, none⟩ v).drewN q) :
    Calls Yba.prog 8 #[.pointer (some ⟨D, 0, none⟩), .int .u8 tag] w fun e w' => e = .returned (.slice (some ⟨g, o, none⟩) n c) ∧ ∃ q, w' = (w.setCell ⟨D, 0, none⟩ v).drewN q := by
  have H := h
  have Hh : Hid (Calls Yba.prog 9 #[.pointer (some ⟨D, 0, none⟩)] w fun e w' => e = .returned (.tuple #[.int .u8 tag, .slice (some ⟨g, o, none⟩) n c]) ∧ ∃ q, w' = (w.setCell ⟨D, 0, none⟩ v).drewN q) := h
  clear h H
  go_enter Yba.func8, Yba.ntmps8
  go_wp2_with (go_at_call 9; refine Hh.out.mono ?_; rintro e w' ⟨rfl, q, rfl⟩)
  go_ret
  exact ⟨rfl, q, rfl⟩

/-- .. another tag -/
theorem read_other {D g o n c : Nat} {tag t' : Int} {w : World} {v b : Value} (hne : t' ≠ tag) (hD : Blk w D 26 #[v, b]) {v' : Value}
    (h : Calls Yba.prog 9 #[.pointer (some ⟨D, 0, none⟩)] w fun e w' => e = .returned (.tuple #[.int .u8 t', .slice (some ⟨g, o, none⟩) n c]) ∧ ∃ q, w' = (w.setCell ⟨D, 0, none⟩ v').drewN q) :
    Calls Yba.prog 8 #[.pointer (some ⟨D, 0, none⟩), .int .u8 tag] w fun e w' => e = .returned (.slice none 0 0) ∧ ∃ q, w' = ((w.setCell ⟨D, 0, none⟩ v').setCell ⟨D, 1, none⟩ (.bool true)).drewN q := by
  have Hh : Hid (Calls Yba.prog 9 #[.pointer (some ⟨D, 0, none⟩)] w fun e w' => e = .returned (.tuple #[.int .u8 t', .slice (some ⟨g, o, none⟩) n c]) ∧ ∃ q, w' = (w.setCell ⟨D, 0, none⟩ v').drewN q) := h
  clear h
  have hb : (t' != tag) = true := by simpa using hne
  have hD1 := hD.set 0 v'
  have c1 : (w.setCell ⟨D, 0, none⟩ v').cell? ⟨D, 1, none⟩ = some b := hD1.cellOf rfl
  have f1 := hD1.frozen 1
  go_enter Yba.func8, Yba.ntmps8
  go_wp2_with (go_at_call 9; refine Hh.out.mono ?_; rintro e w' ⟨rfl, q, rfl⟩)
  go_ret
  exact ⟨rfl, q, setCell_drewN _ _ _ _⟩

/-- .. of a decoder that has failed -/
theorem read_failed {D : Nat} {w : World} {v : Value} (hD : Blk w D 26 #[v, .bool true]) :
    Calls Yba.prog 8 #[.pointer (some ⟨D, 0, none⟩), .int .u8 2] w fun e w' => e = .returned (.slice none 0 0) ∧ w' = (w.setCell ⟨D, 1, none⟩ (.bool true)).setCell ⟨D, 1, none⟩ (.bool true) := by
  have Hh : Hid (Calls Yba.prog 9 #[.pointer (some ⟨D, 0, none⟩)] w fun e w' => e = .returned (.tuple #[.int .u8 0, .slice none 0 0]) ∧ w' = w.setCell ⟨D, 1, none⟩ (.bool true)) := readAny_failed D v w hD
  have hD1 := hD.set 1 (.bool true)
  have c1 : (w.setCell ⟨D, 1, none⟩ (.bool true)).cell? ⟨D, 1, none⟩ = some (.bool true) := hD1.cellOf rfl
  have f1 := hD1.frozen 1
  go_enter Yba.func8, Yba.ntmps8
  go_wp2_with (go_at_call 9; refine Hh.out.mono ?_; rintro e w' ⟨rfl, rfl⟩)
  go_ret
  exact ⟨rfl, rfl⟩

theorem bytes_getD {bs : List Int} (hb : SP.Bytes bs) {j : Nat} (hj : j < bs.length) : 0 ≤ bs.getD j 0 ∧ bs.getD j 0 ≤ 255 := by
  refine hb _ ?_
  rw [List.getD_eq_getElem?_getD, List.getElem?_eq_getElem hj]
  simp

set_option maxHeartbeats 400000 in
set_option maxRecDepth 100000 in
theorem parseInt_ok (g o len cap : Nat) (b0 : Int) (bs : List Int) (w : World) (hl : bs.length + 1 = len) (h8 : len ≤ 8) (hcap : len < cap) (hcm : cap ≤ 100000) (hb : SP.Bytes (b0 :: bs))
    (hc0 : w.cell? ⟨g, o, none⟩ = some (.int .u8 b0)) (hc : ∀ j, j < bs.length → w.cell? ⟨g, o + 1 + j, none⟩ = some (.int .u8 (bs.getD j 0))) :
    Calls Yba.prog 7 #[.slice (some ⟨g, o, none⟩) len cap] w fun e w' => e = .returned (.tuple #[.int .i64 (SP.pv (b0 :: bs)), .bool true]) ∧ w' = w := by
  obtain ⟨hb1, hb2⟩ := hb b0 (by simp)
  have hbs : SP.Bytes bs := fun b h => hb b (by simp [h])
  have HB : Hid (SP.Bytes bs) := hbs
  have HC : Hid (∀ j, j < bs.length → w.cell? ⟨g, o + 1 + j, none⟩ = some (.int .u8 (bs.getD j 0))) := hc
  clear hb hbs hc
  have e0 : ((len : Int) == 0) = false := by simp; omega
  have e8 : decide ((8 : Int) < (len : Int)) = false := by simp; omega
  have HI : Hid (wrap64 (IntKind.i8.wrap b0) = SP.sgn b0) := by
    show wrap64 (IntKind.i8.wrap b0) = SP.sgn b0
    have := SP.sgn_bound hb1 hb2
    rw [i8_wrap b0 hb1 hb2]
    show wrap64 (SP.sgn b0) = _
    exact IntWalk.wrap64_in _ ⟨by omega, by omega⟩
  go_enter Yba.func7, Yba.ntmps7
  go_wp2
  go_loop [4, 23] (fun n i => ∃ (k : Nat) (N : Int), k ≤ bs.length ∧ i = .int .i64 k ∧ n = .int .i64 N ∧ Hid (N = SP.pf (SP.sgn b0) (bs.take k))) (fun _ i => len - (intOf i).toNat)
  case atStart => exact ⟨0, _, Nat.zero_le _, rfl, rfl, HI.out⟩
  case round =>
    obtain ⟨k, N, hk, rfl, rfl, HN⟩ := hrel
    by_cases hlt : k < bs.length
    · have hck := HC.out k hlt
      have hbk := bytes_getD HB.out hlt
      obtain ⟨c, hcc⟩ : ∃ x, x = bs.getD k 0 := ⟨_, rfl⟩
      rw [← hcc] at hck hbk
      have hN := SP.pf_small (l := bs.take k) hb1 hb2 (fun b h => HB.out b (List.mem_of_mem_take h)) (by simp; omega)
      rw [← HN.out] at hN
      obtain ⟨hN1, hN2⟩ := hN
      have Hc : Hid (c = bs.getD k 0) := hcc
      clear hcc
      obtain ⟨hbk1, hbk2⟩ := hbk
      go_wp2
      go_round
      case rel =>
        refine ⟨k + 1, _, by omega, by go_num, rfl, ?_⟩
        show bits .or .i64 (N * 256) c = _
        rw [or_i64 N c hN1 hN2 hbk1 hbk2, List.take_succ_eq_append_getElem hlt, SP.pf_snoc, ← HN.out, Hc.out]
        simp [List.getElem?_eq_getElem hlt]
      case measure => simp [intOf]; omega
    · obtain rfl : k = bs.length := by omega
      go_wp2
      go_ret2
      refine ⟨?_, rfl⟩
      rw [HN.out, List.take_length]
      rfl

set_option maxHeartbeats 400000 in
theorem parseInt_none (ao : Option Addr) (cap : Nat) (w : World) :
    Calls Yba.prog 7 #[.slice ao 0 cap] w fun e w' => e = .returned (.tuple #[.int .i64 0, .bool false]) ∧ w' = w := by
  go_enter Yba.func7, Yba.ntmps7
  go_wp2
  go_ret2
  exact ⟨rfl, rfl⟩

/-- 'integer()': a value in the range of int32 -/
theorem integer_ok {D g o n c : Nat} {w w1 : World} {N : Int} (h1 : -2147483648 ≤ N) (h2 : N ≤ 2147483647)
    (hr : Calls Yba.prog 8 #[.pointer (some ⟨D, 0, none⟩), .int .u8 2] w fun e w' => e = .returned (.slice (some ⟨g, o, none⟩) n c) ∧ ∃ q, w' = w1.drewN q)
    (hp : ∀ q, Calls Yba.prog 7 #[.slice (some ⟨g, o, none⟩) n c] (w1.drewN q) fun e w' => e = .returned (.tuple #[.int .i64 N, .bool true]) ∧ w' = w1.drewN q) :
    Calls Yba.prog 5 #[.pointer (some ⟨D, 0, none⟩)] w fun e w' => e = .returned (.int .i32 N) ∧ ∃ q, w' = w1.drewN q := by
  have Hr : Hid (Calls Yba.prog 8 #[.pointer (some ⟨D, 0, none⟩), .int .u8 2] w fun e w' => e = .returned (.slice (some ⟨g, o, none⟩) n c) ∧ ∃ q, w' = w1.drewN q) := hr
  have Hp : Hid (∀ q, Calls Yba.prog 7 #[.slice (some ⟨g, o, none⟩) n c] (w1.drewN q) fun e w' => e = .returned (.tuple #[.int .i64 N, .bool true]) ∧ w' = w1.drewN q) := hp
  clear hr hp
  have e1 : decide (N < -2147483648) = false := by simp; omega
  have e2 : decide (2147483647 < N) = false := by simp; omega
  go_enter Yba.func5, Yba.ntmps5
  go_wp2_with (first
    | (go_at_call 8; refine Hr.out.mono ?_; rintro e w' ⟨rfl, q, rfl⟩)
    | (go_at_call 7; refine (Hp.out _).mono ?_; rintro e w' ⟨rfl, rfl⟩))
  go_ret
  exact ⟨rfl, q, rfl⟩

/-- .. a value that is none -/
theorem integer_none {D c : Nat} {ao : Option Addr} {w w1 : World} {v b : Value} (hD : Blk w1 D 26 #[v, b])
    (hr : Calls Yba.prog 8 #[.pointer (some ⟨D, 0, none⟩), .int .u8 2] w fun e w' => e = .returned (.slice ao 0 c) ∧ ∃ q, w' = w1.drewN q) :
    Calls Yba.prog 5 #[.pointer (some ⟨D, 0, none⟩)] w fun e w' => e = .returned (.int .i32 0) ∧ ∃ q, w' = (w1.setCell ⟨D, 1, none⟩ (.bool true)).drewN q := by
  have Hr : Hid (Calls Yba.prog 8 #[.pointer (some ⟨D, 0, none⟩), .int .u8 2] w fun e w' => e = .returned (.slice ao 0 c) ∧ ∃ q, w' = w1.drewN q) := hr
  clear hr
  have c1 : w1.cell? ⟨D, 1, none⟩ = some b := hD.cellOf rfl
  have f1 := hD.frozen 1
  go_enter Yba.func5, Yba.ntmps5
  go_wp2_with (first
    | (go_at_call 8; refine Hr.out.mono ?_; rintro e w' ⟨rfl, q, rfl⟩)
    | (go_at_call 7; refine (parseInt_none _ _ _).mono ?_; rintro e w' ⟨rfl, rfl⟩))
  go_ret
  exact ⟨rfl, q, setCell_drewN _ _ _ _⟩

/-- .. a value beyond int32 -/
theorem integer_far {D g o n c : Nat} {w w1 : World} {v b : Value} {N : Int} (hN : N < -2147483648 ∨ 2147483647 < N) (hD : Blk w1 D 26 #[v, b])
    (hr : Calls Yba.prog 8 #[.pointer (some ⟨D, 0, none⟩), .int .u8 2] w fun e w' => e = .returned (.slice (some ⟨g, o, none⟩) n c) ∧ ∃ q, w' = w1.drewN q)
    (hp : ∀ q, Calls Yba.prog 7 #[.slice (some ⟨g, o, none⟩) n c] (w1.drewN q) fun e w' => e = .returned (.tuple #[.int .i64 N, .bool true]) ∧ w' = w1.drewN q) :
    Calls Yba.prog 5 #[.pointer (some ⟨D, 0, none⟩)] w fun e w' => e = .returned (.int .i32 0) ∧ ∃ q, w' = (w1.setCell ⟨D, 1, none⟩ (.bool true)).drewN q := by
  have Hr : Hid (Calls Yba.prog 8 #[.pointer (some ⟨D, 0, none⟩), .int .u8 2] w fun e w' => e = .returned (.slice (some ⟨g, o, none⟩) n c) ∧ ∃ q, w' = w1.drewN q) := hr
  have Hp : Hid (∀ q, Calls Yba.prog 7 #[.slice (some ⟨g, o, none⟩) n c] (w1.drewN q) fun e w' => e = .returned (.tuple #[.int .i64 N, .bool true]) ∧ w' = w1.drewN q) := hp
  clear hr hp
  have c1 : w1.cell? ⟨D, 1, none⟩ = some b := hD.cellOf rfl
  have f1 := hD.frozen 1
  by_cases hlo : N < -2147483648
  · have e1 : decide (N < -2147483648) = true := by simp; omega
    clear hN
    go_enter Yba.func5, Yba.ntmps5
    go_wp2_with (first
      | (go_at_call 8; refine Hr.out.mono ?_; rintro e w' ⟨rfl, q, rfl⟩)
      | (go_at_call 7; refine (Hp.out _).mono ?_; rintro e w' ⟨rfl, rfl⟩))
    go_ret
    exact ⟨rfl, q, setCell_drewN _ _ _ _⟩
  · have e1 : decide (N < -2147483648) = false := by simp; omega
    have e2 : decide (2147483647 < N) = true := by simp; omega
    clear hN
    go_enter Yba.func5, Yba.ntmps5
    go_wp2_with (first
      | (go_at_call 8; refine Hr.out.mono ?_; rintro e w' ⟨rfl, q, rfl⟩)
      | (go_at_call 7; refine (Hp.out _).mono ?_; rintro e w' ⟨rfl, rfl⟩))
    go_ret
    exact ⟨rfl, q, setCell_drewN _ _ _ _⟩

set_option maxHeartbeats 400000 in
set_option maxRecDepth 100000 in
/-- zzs0036aeq, of two slices that hold the same -/
theorem eq_same (a1 a2 : Option Addr) (n c1 c2 : Nat) (zs : List Int) (w : World) (hl : zs.length = n) (hn : n ≤ 100000)
    (h1 : 0 < n → ∃ g o, a1 = some ⟨g, o, none⟩ ∧ ∀ j, j < n → w.cell? ⟨g, o + j, none⟩ = some (.int .u8 (zs.getD j 0)))
    (h2 : 0 < n → ∃ g o, a2 = some ⟨g, o, none⟩ ∧ ∀ j, j < n → w.cell? ⟨g, o + j, none⟩ = some (.int .u8 (zs.getD j 0))) :
    Calls Yba.prog 6 #[.slice a1 n c1, .slice a2 n c2] w fun e w' => e = .returned (.bool true) ∧ ∃ q, w' = w.drewN q := by
  go_enter Yba.func6, Yba.ntmps6
  go_wp2
  go_loopw [5] (fun i wr => ∃ k : Nat, k ≤ n ∧ i = .int .i64 k ∧ ∃ q, wr = w.drewN q) (fun i _ => n - (intOf i).toNat)
  case atStart => exact ⟨0, Nat.zero_le _, rfl, 0, rfl⟩
  case round =>
    obtain ⟨k, hk, rfl, q, rfl⟩ := hrel
    by_cases hlt : k < n
    · obtain ⟨g1, o1, rfl, hc1⟩ := h1 (by omega)
      obtain ⟨g2, o2, rfl, hc2⟩ := h2 (by omega)
      have k1 := hc1 k hlt
      have k2 := hc2 k hlt
      clear hc1 hc2
      generalize zs.getD k 0 = z at *
      go_wp2_with fail
      go_quiet (fail)
      go_wp2_with fail
      go_roundw
      case rel => exact ⟨k + 1, by omega, by go_num, _, rfl⟩
      case measure => simp [intOf]; omega
    · go_wp2
      go_ret
      exact ⟨rfl, q, rfl⟩
end Go.Proofs.Ybulksk
