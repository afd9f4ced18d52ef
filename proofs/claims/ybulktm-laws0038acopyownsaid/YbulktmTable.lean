/-
  (*table).clone, walked.
-/
import Derived.Test.YbulktmKey
namespace Go.Proofs.Ybulktm
open Go.RowKit
set_option linter.unusedVariables false

/-- a table's twelve cells -/
def tab (name : ByteArray) (qk : Nat) (n : Int) (gc L : Nat) (capc : Nat) (kp : Option Addr) (readers first : Int) (ba : Option Addr) (bn bc : Nat) : Array Value :=
  #[.string name, .slice none 0 0, .map none, .slice (some ⟨qk, 0, none⟩) 1 1, .string ByteArray.empty, .int .u8 0, .int .i64 n, .slice (some ⟨gc, 0, none⟩) L capc, .pointer kp, .int .i64 readers, .int .i64 first, .slice ba bn bc]

set_option maxHeartbeats 1000000 in
set_option maxRecDepth 100000 in
/-- (*table).clone, no key -/
theorem table_clone0 {w : World} {T qk N g L cap bn bc : Nat} {ba : Option Addr} {name : ByteArray} {n readers first : Int} {F : Nat → Col} {D : Nat → Dat} (hL : L ≤ 1024) (hcap : L ≤ cap)
    (hT : Blk w T 46 (tab name qk n g L cap none readers first ba bn bc))
    (hc : ColsAt w N g L L F D) (hsz : ∀ k, k < L → (D k).tz.length ≤ 1024 ∧ (D k).nz.length ≤ 1024 ∧ (D k).sz.length ≤ 1024) :
    Calls Yba.prog 7 #[.pointer (some ⟨T, 0, none⟩)] w fun e w' => ∃ T' g' F', e = .returned (.pointer (some ⟨T', 0, none⟩)) ∧ w.heap.size ≤ T' ∧ Blk w' T' 46 (tab name qk n g' L L none 0 first ba bn bc) ∧ ColsAt w' w.heap.size g' L L F' D ∧ w.heap.size ≤ g' ∧ Below w.heap.size w w' := by
  have k0 : w.cell? ⟨T, 0, none⟩ = some (.string name) := hT.cellOf rfl
  have k1 : w.cell? ⟨T, 1, none⟩ = some (.slice none 0 0) := hT.cellOf rfl
  have k2 : w.cell? ⟨T, 2, none⟩ = some (.map none) := hT.cellOf rfl
  have k3 : w.cell? ⟨T, 3, none⟩ = some (.slice (some ⟨qk, 0, none⟩) 1 1) := hT.cellOf rfl
  have k4 : w.cell? ⟨T, 4, none⟩ = some (.string ByteArray.empty) := hT.cellOf rfl
  have k5 : w.cell? ⟨T, 5, none⟩ = some (.int .u8 0) := hT.cellOf rfl
  have k6 : w.cell? ⟨T, 6, none⟩ = some (.int .i64 n) := hT.cellOf rfl
  have k7 : w.cell? ⟨T, 7, none⟩ = some (.slice (some ⟨g, 0, none⟩) L cap) := hT.cellOf rfl
  have k8 : w.cell? ⟨T, 8, none⟩ = some (.pointer none) := hT.cellOf rfl
  have k9 : w.cell? ⟨T, 9, none⟩ = some (.int .i64 readers) := hT.cellOf rfl
  have k10 : w.cell? ⟨T, 10, none⟩ = some (.int .i64 first) := hT.cellOf rfl
  have k11 : w.cell? ⟨T, 11, none⟩ = some (.slice ba bn bc) := hT.cellOf rfl
  have lT := hT.lt
  go_enter Yba.func7, Yba.ntmps7
  go_upto_region 2 with fail
  have hb1 := (Below.refl w.heap.size w).alloc (Nat.le_refl _) (Obj.cells #[Value.string name, Value.slice none 0 0, Value.map none, Value.slice (some ⟨qk, 0, none⟩) 1 1, Value.string ByteArray.empty, Value.int .u8 0, Value.int .i64 n, Value.slice (some ⟨g, 0, none⟩) L cap, Value.pointer none, Value.int .i64 readers, Value.int .i64 first, Value.slice ba bn bc] 46)
  have hn1 : Blk (w.alloc (Obj.cells #[Value.string name, Value.slice none 0 0, Value.map none, Value.slice (some ⟨qk, 0, none⟩) 1 1, Value.string ByteArray.empty, Value.int .u8 0, Value.int .i64 n, Value.slice (some ⟨g, 0, none⟩) L cap, Value.pointer none, Value.int .i64 readers, Value.int .i64 first, Value.slice ba bn bc] 46)) w.heap.size 46 (tab name qk n g L cap none readers first ba bn bc) := Blk.new w 46 _
  have hc1 := hc.alloc (Obj.cells #[Value.string name, Value.slice none 0 0, Value.map none, Value.slice (some ⟨qk, 0, none⟩) 1 1, Value.string ByteArray.empty, Value.int .u8 0, Value.int .i64 n, Value.slice (some ⟨g, 0, none⟩) L cap, Value.pointer none, Value.int .i64 readers, Value.int .i64 first, Value.slice ba bn bc] 46)
  generalize w.alloc (Obj.cells #[Value.string name, Value.slice none 0 0, Value.map none, Value.slice (some ⟨qk, 0, none⟩) 1 1, Value.string ByteArray.empty, Value.int .u8 0, Value.int .i64 n, Value.slice (some ⟨g, 0, none⟩) L cap, Value.pointer none, Value.int .i64 readers, Value.int .i64 first, Value.slice ba bn bc] 46) = W1 at *
  have j6 : W1.cell? ⟨T, 6, none⟩ = some (.int .i64 n) := (hb1.cell (p := ⟨T, 6, none⟩) lT).trans k6
  have j7 : W1.cell? ⟨T, 7, none⟩ = some (.slice (some ⟨g, 0, none⟩) L cap) := (hb1.cell (p := ⟨T, 7, none⟩) lT).trans k7
  clear k0 k1 k2 k3 k4 k5 k6 k7 k9 k10 k11
  go_upto_region 3 with (first | (go_at_call 12; refine (rows_clone hL hcap j6 j7 hc1 hsz).mono ?_; rintro e w1 ⟨g1, F1, rfl, hcs1, hg1, hbc1⟩; have hn2 := hn1.below hbc1 hn1.lt; have t6 := hn2.cellOf (j := 6) rfl; have t7 := hn2.cellOf (j := 7) rfl; have f6 := hn2.frozen 6; have f7 := hn2.frozen 7))
  have hb2 := hb1.trans (hbc1.mono hb1.size)
  have hn3 := hn2.set 6 (.int .i64 n)
  have hn4 : Blk ((w1.setCell ⟨w.heap.size, 6, none⟩ (.int .i64 n)).setCell ⟨w.heap.size, 7, none⟩ (.slice (some ⟨g1, 0, none⟩) L L)) w.heap.size 46 (tab name qk n g1 L L none readers first ba bn bc) := hn3.set 7 (.slice (some ⟨g1, 0, none⟩) L L)
  have hcs3 := ((hcs1.mono hb1.size).set hn2 (by decide) (by decide) (by decide) (by decide) 6 (.int .i64 n)).set hn3 (by decide) (by decide) (by decide) (by decide) 7 (.slice (some ⟨g1, 0, none⟩) L L)
  have hb3 := (hb2.setCell (p := ⟨w.heap.size, 6, none⟩) (Nat.le_refl _) (.int .i64 n)).setCell (p := ⟨w.heap.size, 7, none⟩) (Nat.le_refl _) (.slice (some ⟨g1, 0, none⟩) L L)
  have hg3 : w.heap.size ≤ g1 := by have := hb1.size; omega
  clear hn2 hn3 hcs1 t6 t7 f6 f7 hb2 hn1 hc1 j6 j7 hb1 hbc1
  generalize (w1.setCell ⟨w.heap.size, 6, none⟩ (.int .i64 n)).setCell ⟨w.heap.size, 7, none⟩ (.slice (some ⟨g1, 0, none⟩) L L) = W2 at *
  have m8 : W2.cell? ⟨T, 8, none⟩ = some (.pointer none) := (hb3.cell (p := ⟨T, 8, none⟩) lT).trans k8
  have t9 := hn4.cellOf (j := 9) rfl
  have f9 := hn4.frozen 9
  go_wp2_with fail
  have hn7 : Blk (W2.setCell ⟨w.heap.size, 9, none⟩ (.int .i64 0)) w.heap.size 46 (tab name qk n g1 L L none 0 first ba bn bc) := hn4.set 9 (.int .i64 0)
  exact bodyPost_ret (v := .pointer (some ⟨w.heap.size, 0, none⟩)) (by simp [results]) rfl ⟨_, _, _, rfl, Nat.le_refl _, hn7, hcs3.set hn4 (by decide) (by decide) (by decide) (by decide) 9 (.int .i64 0), hg3, hb3.setCell (p := ⟨w.heap.size, 9, none⟩) (Nat.le_refl _) (.int .i64 0)⟩

set_option maxHeartbeats 1000000 in
set_option maxRecDepth 100000 in
/-- (*table).clone -/
theorem table_clone1 {w : World} {T qk N g L cap bn bc : Nat} {ba : Option Addr} {name : ByteArray} {n readers first : Int} {F : Nat → Col} {D : Nat → Dat} (hL : L ≤ 1024) (hcap : L ≤ cap)
    {K q sn sc : Nat} {sa : Option Addr} {count seed : Int} {xs : List Int} (hsn : sn ≤ 4096) (hK : Blk w K 51 #[.slice (some ⟨q, 0, none⟩) 1 1, .slice sa sn sc, .int .i64 count, .int .u64 seed]) (hs : SlAt w w.heap.size sa sn sc (xs.map (Value.int .u32)))
    (hT : Blk w T 46 (tab name qk n g L cap (some ⟨K, 0, none⟩) readers first ba bn bc))
    (hc : ColsAt w N g L L F D) (hsz : ∀ k, k < L → (D k).tz.length ≤ 1024 ∧ (D k).nz.length ≤ 1024 ∧ (D k).sz.length ≤ 1024) :
    Calls Yba.prog 7 #[.pointer (some ⟨T, 0, none⟩)] w fun e w' => ∃ T' g' F' K' a' c', e = .returned (.pointer (some ⟨T', 0, none⟩)) ∧ w.heap.size ≤ T' ∧ Blk w' T' 46 (tab name qk n g' L L (some ⟨K', 0, none⟩) 0 first ba bn bc) ∧ ColsAt w' w.heap.size g' L L F' D ∧ w.heap.size ≤ g' ∧ w.heap.size ≤ K' ∧ Blk w' K' 51 #[.slice (some ⟨q, 0, none⟩) 1 1, .slice a' sn c', .int .i64 count, .int .u64 seed] ∧ OwnSl w' w.heap.size 58 a' sn c' (xs.map (Value.int .u32)) ∧ Below w.heap.size w w' := by
  have k0 : w.cell? ⟨T, 0, none⟩ = some (.string name) := hT.cellOf rfl
  have k1 : w.cell? ⟨T, 1, none⟩ = some (.slice none 0 0) := hT.cellOf rfl
  have k2 : w.cell? ⟨T, 2, none⟩ = some (.map none) := hT.cellOf rfl
  have k3 : w.cell? ⟨T, 3, none⟩ = some (.slice (some ⟨qk, 0, none⟩) 1 1) := hT.cellOf rfl
  have k4 : w.cell? ⟨T, 4, none⟩ = some (.string ByteArray.empty) := hT.cellOf rfl
  have k5 : w.cell? ⟨T, 5, none⟩ = some (.int .u8 0) := hT.cellOf rfl
  have k6 : w.cell? ⟨T, 6, none⟩ = some (.int .i64 n) := hT.cellOf rfl
  have k7 : w.cell? ⟨T, 7, none⟩ = some (.slice (some ⟨g, 0, none⟩) L cap) := hT.cellOf rfl
  have k8 : w.cell? ⟨T, 8, none⟩ = some (.pointer (some ⟨K, 0, none⟩)) := hT.cellOf rfl
  have k9 : w.cell? ⟨T, 9, none⟩ = some (.int .i64 readers) := hT.cellOf rfl
  have k10 : w.cell? ⟨T, 10, none⟩ = some (.int .i64 first) := hT.cellOf rfl
  have k11 : w.cell? ⟨T, 11, none⟩ = some (.slice ba bn bc) := hT.cellOf rfl
  have lT := hT.lt
  go_enter Yba.func7, Yba.ntmps7
  go_upto_region 2 with fail
  have hb1 := (Below.refl w.heap.size w).alloc (Nat.le_refl _) (Obj.cells #[Value.string name, Value.slice none 0 0, Value.map none, Value.slice (some ⟨qk, 0, none⟩) 1 1, Value.string ByteArray.empty, Value.int .u8 0, Value.int .i64 n, Value.slice (some ⟨g, 0, none⟩) L cap, Value.pointer (some ⟨K, 0, none⟩), Value.int .i64 readers, Value.int .i64 first, Value.slice ba bn bc] 46)
  have hn1 : Blk (w.alloc (Obj.cells #[Value.string name, Value.slice none 0 0, Value.map none, Value.slice (some ⟨qk, 0, none⟩) 1 1, Value.string ByteArray.empty, Value.int .u8 0, Value.int .i64 n, Value.slice (some ⟨g, 0, none⟩) L cap, Value.pointer (some ⟨K, 0, none⟩), Value.int .i64 readers, Value.int .i64 first, Value.slice ba bn bc] 46)) w.heap.size 46 (tab name qk n g L cap (some ⟨K, 0, none⟩) readers first ba bn bc) := Blk.new w 46 _
  have hc1 := hc.alloc (Obj.cells #[Value.string name, Value.slice none 0 0, Value.map none, Value.slice (some ⟨qk, 0, none⟩) 1 1, Value.string ByteArray.empty, Value.int .u8 0, Value.int .i64 n, Value.slice (some ⟨g, 0, none⟩) L cap, Value.pointer (some ⟨K, 0, none⟩), Value.int .i64 readers, Value.int .i64 first, Value.slice ba bn bc] 46)
  generalize w.alloc (Obj.cells #[Value.string name, Value.slice none 0 0, Value.map none, Value.slice (some ⟨qk, 0, none⟩) 1 1, Value.string ByteArray.empty, Value.int .u8 0, Value.int .i64 n, Value.slice (some ⟨g, 0, none⟩) L cap, Value.pointer (some ⟨K, 0, none⟩), Value.int .i64 readers, Value.int .i64 first, Value.slice ba bn bc] 46) = W1 at *
  have j6 : W1.cell? ⟨T, 6, none⟩ = some (.int .i64 n) := (hb1.cell (p := ⟨T, 6, none⟩) lT).trans k6
  have j7 : W1.cell? ⟨T, 7, none⟩ = some (.slice (some ⟨g, 0, none⟩) L cap) := (hb1.cell (p := ⟨T, 7, none⟩) lT).trans k7
  clear k0 k1 k2 k3 k4 k5 k6 k7 k9 k10 k11
  go_upto_region 3 with (first | (go_at_call 12; refine (rows_clone hL hcap j6 j7 hc1 hsz).mono ?_; rintro e w1 ⟨g1, F1, rfl, hcs1, hg1, hbc1⟩; have hn2 := hn1.below hbc1 hn1.lt; have t6 := hn2.cellOf (j := 6) rfl; have t7 := hn2.cellOf (j := 7) rfl; have f6 := hn2.frozen 6; have f7 := hn2.frozen 7))
  have hb2 := hb1.trans (hbc1.mono hb1.size)
  have hn3 := hn2.set 6 (.int .i64 n)
  have hn4 : Blk ((w1.setCell ⟨w.heap.size, 6, none⟩ (.int .i64 n)).setCell ⟨w.heap.size, 7, none⟩ (.slice (some ⟨g1, 0, none⟩) L L)) w.heap.size 46 (tab name qk n g1 L L (some ⟨K, 0, none⟩) readers first ba bn bc) := hn3.set 7 (.slice (some ⟨g1, 0, none⟩) L L)
  have hcs3 := ((hcs1.mono hb1.size).set hn2 (by decide) (by decide) (by decide) (by decide) 6 (.int .i64 n)).set hn3 (by decide) (by decide) (by decide) (by decide) 7 (.slice (some ⟨g1, 0, none⟩) L L)
  have hb3 := (hb2.setCell (p := ⟨w.heap.size, 6, none⟩) (Nat.le_refl _) (.int .i64 n)).setCell (p := ⟨w.heap.size, 7, none⟩) (Nat.le_refl _) (.slice (some ⟨g1, 0, none⟩) L L)
  have hg3 : w.heap.size ≤ g1 := by have := hb1.size; omega
  clear hn2 hn3 hcs1 t6 t7 f6 f7 hb2 hn1 hc1 j6 j7 hb1 hbc1
  generalize (w1.setCell ⟨w.heap.size, 6, none⟩ (.int .i64 n)).setCell ⟨w.heap.size, 7, none⟩ (.slice (some ⟨g1, 0, none⟩) L L) = W2 at *
  have m8 : W2.cell? ⟨T, 8, none⟩ = some (.pointer (some ⟨K, 0, none⟩)) := (hb3.cell (p := ⟨T, 8, none⟩) lT).trans k8
  have hK2 := hK.below hb3 hK.lt
  have hs2 := (hs.later hb3).more hb3.size
  go_upto_region 5 with (first | (go_at_call 13; refine (key_clone hsn hK2 hs2).mono ?_; rintro e w5 ⟨K5, a5, c5, rfl, hK5, hKb5, hos5, hbc5⟩; have hn5 := hn4.below hbc5 hn4.lt; have t8 := hn5.cellOf (j := 8) rfl; have f8 := hn5.frozen 8))
  have hcs5 := hcs3.below hbc5
  have hb5 := hb3.trans (hbc5.mono hb3.size)
  have hs3 := hb3.size
  have hn6 : Blk (w5.setCell ⟨w.heap.size, 8, none⟩ (.pointer (some ⟨K5, 0, none⟩))) w.heap.size 46 (tab name qk n g1 L L (some ⟨K5, 0, none⟩) readers first ba bn bc) := hn5.set 8 (.pointer (some ⟨K5, 0, none⟩))
  have hcs6 := hcs5.set hn5 (by decide) (by decide) (by decide) (by decide) 8 (.pointer (some ⟨K5, 0, none⟩))
  have hb6 := hb5.setCell (p := ⟨w.heap.size, 8, none⟩) (Nat.le_refl _) (.pointer (some ⟨K5, 0, none⟩))
  have hos6 := (hos5.set hn5 (by decide) 8 (.pointer (some ⟨K5, 0, none⟩))).mono hs3
  have hKb6 := hKb5.setOther (a := ⟨w.heap.size, 8, none⟩) (hKb5.ne hn5 (by decide)) (.pointer (some ⟨K5, 0, none⟩))
  clear hn5 hcs5 hb5 hos5 hKb5 hn4 hcs3 hb3 hbc5 hK2 hs2 t8 f8 m8
  generalize w5.setCell ⟨w.heap.size, 8, none⟩ (.pointer (some ⟨K5, 0, none⟩)) = W6 at *
  have t9 := hn6.cellOf (j := 9) rfl
  have f9 := hn6.frozen 9
  go_wp2_with fail
  have hn7 : Blk (W6.setCell ⟨w.heap.size, 9, none⟩ (.int .i64 0)) w.heap.size 46 (tab name qk n g1 L L (some ⟨K5, 0, none⟩) 0 first ba bn bc) := hn6.set 9 (.int .i64 0)
  exact bodyPost_ret (v := .pointer (some ⟨w.heap.size, 0, none⟩)) (by simp [results]) rfl ⟨_, _, _, _, _, _, rfl, Nat.le_refl _, hn7, hcs6.set hn6 (by decide) (by decide) (by decide) (by decide) 9 (.int .i64 0), hg3, by omega, hKb6.setOther (a := ⟨w.heap.size, 9, none⟩) (hKb6.ne hn6 (by decide)) (.int .i64 0), hos6.set hn6 (by decide) 9 (.int .i64 0), hb6.setCell (p := ⟨w.heap.size, 9, none⟩) (Nat.le_refl _) (.int .i64 0)⟩

end Go.Proofs.Ybulktm
