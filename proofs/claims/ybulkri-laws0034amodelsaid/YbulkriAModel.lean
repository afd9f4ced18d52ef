/-
  LawS0034AModel: zzs0034amodel computes mrun.
-/
import Derived.Test.YbulkriProg
import Derived.Test.YbulkriHeap
import Derived.Test.YbulkriAPlain
import Derived.WalkKit
import Derived.WalkSpells
import Derived.Deep.DeepCutAuto
import Derived.Deep.CutBlock
import Derived.Deep.DeepMust
namespace Go.Proofs.Ybulkri.A
open Go.RowKit
set_option linter.unusedVariables false

def mcells (m : Nat → Nat → Int) : Array Value := ((List.range 12).map fun j => Value.int .u8 (m (j / 3) (j % 3))).toArray
def ucells (u : Nat → Bool) : Array Value := ((List.range 4).map fun j => Value.bool (u j)).toArray
def fcells (f : Nat → Int) : Array Value := ((List.range 6).map fun j => Value.int .i64 (f j)).toArray
def bcells (b : Nat → Bool) : Array Value := ((List.range 6).map fun j => Value.bool (b j)).toArray

theorem mcells_get (m : Nat → Nat → Int) {t x : Nat} (ht : t < 4) (hx : x < 3) : (mcells m)[t * 3 + x]? = some (.int .u8 (m t x)) := by
  have h1 : (t * 3 + x) / 3 = t := by omega
  have h2 : (t * 3 + x) % 3 = x := by omega
  simp [mcells, show t * 3 + x < 12 by omega, h1, h2]
theorem mcells_set (m : Nat → Nat → Int) {t x : Nat} (ht : t < 4) (hx : x < 3) (v : Int) : (mcells m).setIfInBounds (t * 3 + x) (.int .u8 v) = mcells (put m t x v) := by
  apply Array.ext
  · simp [mcells]
  · intro j h1 h2
    have hj : j < 12 := by simpa [mcells] using h2
    rw [Array.getElem_setIfInBounds (by simpa using h1)]
    simp only [mcells, List.getElem_toArray, List.getElem_map, List.getElem_range, put]
    by_cases e : t * 3 + x = j
    · rw [if_pos e, if_pos (by omega)]
    · rw [if_neg e, if_neg (by omega)]
theorem ucells_get (u : Nat → Bool) {t : Nat} (ht : t < 4) : (ucells u)[t]? = some (.bool (u t)) := by
  simp [ucells, ht]
theorem ucells_set (u : Nat → Bool) {t : Nat} (v : Bool) : (ucells u).setIfInBounds t (.bool v) = ucells (putB u t v) := by
  apply Array.ext
  · simp [ucells]
  · intro j h1 h2
    rw [Array.getElem_setIfInBounds (by simpa using h1)]
    simp only [ucells, List.getElem_toArray, List.getElem_map, List.getElem_range, putB]
    by_cases e : t = j
    · rw [if_pos e, if_pos e.symm]
    · rw [if_neg e, if_neg (Ne.symm e)]
theorem fcells_get (f : Nat → Int) {t : Nat} (ht : t < 6) : (fcells f)[t]? = some (.int .i64 (f t)) := by
  simp [fcells, ht]
theorem fcells_set (f : Nat → Int) {t : Nat} (v : Int) : (fcells f).setIfInBounds t (.int .i64 v) = fcells (putI f t v) := by
  apply Array.ext
  · simp [fcells]
  · intro j h1 h2
    rw [Array.getElem_setIfInBounds (by simpa using h1)]
    simp only [fcells, List.getElem_toArray, List.getElem_map, List.getElem_range, putI]
    by_cases e : t = j
    · rw [if_pos e, if_pos e.symm]
    · rw [if_neg e, if_neg (Ne.symm e)]
theorem bcells_get (f : Nat → Bool) {t : Nat} (ht : t < 6) : (bcells f)[t]? = some (.bool (f t)) := by
  simp [bcells, ht]
theorem bcells_set (f : Nat → Bool) {t : Nat} (v : Bool) : (bcells f).setIfInBounds t (.bool v) = bcells (putB f t v) := by
  apply Array.ext
  · simp [bcells]
  · intro j h1 h2
    rw [Array.getElem_setIfInBounds (by simpa using h1)]
    simp only [bcells, List.getElem_toArray, List.getElem_map, List.getElem_range, putB]
    by_cases e : t = j
    · rw [if_pos e, if_pos e.symm]
    · rw [if_neg e, if_neg (Ne.symm e)]
theorem bcells_congr {f g : Nat → Bool} (h : ∀ r, r < 6 → f r = g r) : bcells f = bcells g := by
  unfold bcells
  rw [List.map_congr_left (g := fun j => Value.bool (g j)) (fun j hj => by rw [h j (List.mem_range.1 hj)])]
theorem fcells_congr {f g : Nat → Int} (h : ∀ r, r < 6 → f r = g r) : fcells f = fcells g := by
  unfold fcells
  rw [List.map_congr_left (g := fun j => Value.int .i64 (g j)) (fun j hj => by rw [h j (List.mem_range.1 hj)])]
theorem mcells_congr {f g : Nat → Nat → Int} (h : ∀ t x, t < 4 → x < 3 → f t x = g t x) : mcells f = mcells g := by
  unfold mcells
  rw [List.map_congr_left (g := fun j => Value.int .u8 (g (j / 3) (j % 3))) (fun j hj => by have := List.mem_range.1 hj; rw [h (j / 3) (j % 3) (by omega) (by omega)])]

/-- the model's variables -/
structure MAt (w : World) (N : Nat) (m : Nat → Nat → Int) (u : Nat → Bool) (f : Nat → Int) (w' : World) : Prop where
  r : Blk w' N 38 (fcells fun _ => 0)
  m : Blk w' (N + 1) 70 (mcells m)
  u : Blk w' (N + 1 + 1) 27 (ucells u)
  f : Blk w' (N + 1 + 1 + 1) 38 (fcells f)
  b : Below N w w'

theorem MAt.alloc {w w' : World} {N : Nat} {m : Nat → Nat → Int} {u : Nat → Bool} {f : Nat → Int} (h : MAt w N m u f w') (o : Obj) : MAt w N m u f (w'.alloc o) :=
  ⟨h.r.alloc o, h.m.alloc o, h.u.alloc o, h.f.alloc o, h.b.alloc (Nat.le_of_lt h.r.lt) o⟩
theorem MAt.setM {w w' : World} {N : Nat} {m : Nat → Nat → Int} {u : Nat → Bool} {f : Nat → Int} (h : MAt w N m u f w') {t x : Nat} (ht : t < 4) (hx : x < 3) (v : Int) : MAt w N (put m t x v) u f (w'.setCell ⟨N + 1, t * 3 + x, none⟩ (.int .u8 v)) :=
  ⟨h.r.setOther (by simp; try omega) _, by have := h.m.set (t * 3 + x) (.int .u8 v); rwa [mcells_set m ht hx] at this, h.u.setOther (by simp; try omega) _, h.f.setOther (by simp; try omega) _, h.b.setCell (p := ⟨N + 1, t * 3 + x, none⟩) (Nat.le_succ _) _⟩
theorem MAt.setU {w w' : World} {N : Nat} {m : Nat → Nat → Int} {u : Nat → Bool} {f : Nat → Int} (h : MAt w N m u f w') (t : Nat) (v : Bool) : MAt w N m (putB u t v) f (w'.setCell ⟨N + 1 + 1, t, none⟩ (.bool v)) :=
  ⟨h.r.setOther (by simp; try omega) _, h.m.setOther (by simp; try omega) _, by have := h.u.set t (.bool v); rwa [ucells_set u] at this, h.f.setOther (by simp; try omega) _, h.b.setCell (p := ⟨N + 1 + 1, t, none⟩) (by simp; try omega) _⟩
theorem MAt.setF {w w' : World} {N : Nat} {m : Nat → Nat → Int} {u : Nat → Bool} {f : Nat → Int} (h : MAt w N m u f w') (t : Nat) (v : Int) : MAt w N m u (putI f t v) (w'.setCell ⟨N + 1 + 1 + 1, t, none⟩ (.int .i64 v)) :=
  ⟨h.r.setOther (by simp; try omega) _, h.m.setOther (by simp; try omega) _, h.u.setOther (by simp; try omega) _, by have := h.f.set t (.int .i64 v); rwa [fcells_set f] at this, h.b.setCell (p := ⟨N + 1 + 1 + 1, t, none⟩) (by simp; try omega) _⟩
theorem MAt.setO {w w' : World} {N : Nat} {m : Nat → Nat → Int} {u : Nat → Bool} {f : Nat → Int} (h : MAt w N m u f w') (B j : Nat) (hB : N + 4 ≤ B) (v : Value) : MAt w N m u f (w'.setCell ⟨B, j, none⟩ v) :=
  ⟨h.r.setOther (by simp; omega) _, h.m.setOther (by simp; omega) _, h.u.setOther (by simp; omega) _, h.f.setOther (by simp; omega) _, h.b.setCell (p := ⟨B, j, none⟩) (by simp; omega) _⟩

theorem MAt.start (w : World) : MAt w w.heap.size (fun _ _ => 0) (fun _ => false) (fun j => if j < 0 then -1 else 0)
    ((((w.alloc (.cells #[.int .i64 0, .int .i64 0, .int .i64 0, .int .i64 0, .int .i64 0, .int .i64 0] 38)).alloc (.cells #[.int .u8 0, .int .u8 0, .int .u8 0, .int .u8 0, .int .u8 0, .int .u8 0, .int .u8 0, .int .u8 0, .int .u8 0, .int .u8 0, .int .u8 0, .int .u8 0] 70)).alloc (.cells #[.bool false, .bool false, .bool false, .bool false] 27)).alloc (.cells #[.int .i64 0, .int .i64 0, .int .i64 0, .int .i64 0, .int .i64 0, .int .i64 0] 38)) := by
  refine ⟨?_, ?_, ?_, ?_, ?_⟩
  · exact (((Blk.new w 38 (fcells fun _ => 0)).alloc _).alloc _).alloc _
  · have := ((Blk.new (w.alloc (.cells #[.int .i64 0, .int .i64 0, .int .i64 0, .int .i64 0, .int .i64 0, .int .i64 0] 38)) 70 (mcells fun _ _ => 0)).alloc (.cells #[.bool false, .bool false, .bool false, .bool false] 27)).alloc (.cells #[.int .i64 0, .int .i64 0, .int .i64 0, .int .i64 0, .int .i64 0, .int .i64 0] 38)
    rw [World.size_alloc] at this
    exact this
  · have := (Blk.new ((w.alloc (.cells #[.int .i64 0, .int .i64 0, .int .i64 0, .int .i64 0, .int .i64 0, .int .i64 0] 38)).alloc (.cells (mcells fun _ _ => 0) 70)) 27 (ucells fun _ => false)).alloc (.cells #[.int .i64 0, .int .i64 0, .int .i64 0, .int .i64 0, .int .i64 0, .int .i64 0] 38)
    rw [World.size_alloc, World.size_alloc] at this
    exact this
  · have := Blk.new (((w.alloc (.cells #[.int .i64 0, .int .i64 0, .int .i64 0, .int .i64 0, .int .i64 0, .int .i64 0] 38)).alloc (.cells (mcells fun _ _ => 0) 70)).alloc (.cells (ucells fun _ => false) 27)) 38 (fcells fun j => if j < 0 then -1 else 0)
    rw [World.size_alloc, World.size_alloc, World.size_alloc] at this
    exact this
  · exact ((((Below.refl _ w).alloc (Nat.le_refl _) _).alloc (by simp) _).alloc (by simp; omega) _).alloc (by simp; omega) _

theorem MAt.congrF {w w' : World} {N : Nat} {m : Nat → Nat → Int} {u : Nat → Bool} {f f' : Nat → Int} (h : MAt w N m u f w') (hf : ∀ r, r < 6 → f r = f' r) : MAt w N m u f' w' :=
  ⟨h.r, h.m, h.u, by have := h.f; rwa [fcells_congr hf] at this, h.b⟩
theorem MAt.congrM {w w' : World} {N : Nat} {m m' : Nat → Nat → Int} {u : Nat → Bool} {f : Nat → Int} (h : MAt w N m u f w') (hf : ∀ t x, t < 4 → x < 3 → m t x = m' t x) : MAt w N m' u f w' :=
  ⟨h.r, by have := h.m; rwa [mcells_congr hf] at this, h.u, h.f, h.b⟩

def OpsAt (w : World) (go : Nat) (ops : List (Int × Int × Int)) : Prop := ∀ p, p < ops.length → w.cell? ⟨go, p * 3, none⟩ = some (.int .u8 (ops.getD p (0, 0, 0)).1) ∧ w.cell? ⟨go, p * 3 + 1, none⟩ = some (.int .i64 (ops.getD p (0, 0, 0)).2.1) ∧ w.cell? ⟨go, p * 3 + 2, none⟩ = some (.int .i64 (ops.getD p (0, 0, 0)).2.2)

theorem OpsAt.below {w w' : World} {go B : Nat} {ops : List (Int × Int × Int)} (h : OpsAt w go ops) (hb : Below B w w') (hg : go < B) : OpsAt w' go ops :=
  fun p hp => ⟨(hb.cell (p := ⟨go, p * 3, none⟩) hg).trans (h p hp).1, (hb.cell (p := ⟨go, p * 3 + 1, none⟩) hg).trans (h p hp).2.1, (hb.cell (p := ⟨go, p * 3 + 2, none⟩) hg).trans (h p hp).2.2⟩

def oth (m : Nat → Nat → Int) (t x : Nat) (a b : Int) (j : Nat) : Bool := (List.range j).any fun u => decide (u ≠ t) && (decide (m u x = a) || decide (m u x = b))
theorem oth_succ (m : Nat → Nat → Int) (t x : Nat) (a b : Int) (j : Nat) : oth m t x a b (j + 1) = (oth m t x a b j || (decide (j ≠ t) && (decide (m j x = a) || decide (m j x = b)))) := by
  simp [oth, List.range_succ]
theorem oth_other (nT : Nat) (m : Nat → Nat → Int) (t x : Nat) (a b : Int) : oth m t x a b nT = other nT m t x a b := rfl
theorem bits_1 (nT : Nat) (s : MS) (t x r : Nat) : putB (fun _ => false) 1 (decide (s.m t x ≠ 1) && decide (s.m t x ≠ 2)) r = bits nT s 1 t x r := by
  by_cases e : r = 1 <;> simp [bits, putB, e]
theorem bits_2 (nT : Nat) (s : MS) (t x r : Nat) : putB (fun _ => false) 1 (decide (s.m t x ≠ 2)) r = bits nT s 2 t x r := by
  by_cases e : r = 1 <;> simp [bits, putB, e]
theorem bits_5 (nT : Nat) (s : MS) (t x r : Nat) : putB (putB (putB (fun _ => false) 1 (decide (s.m t x ≠ 0))) 2 (other nT s.m t x 2 2)) 3 (s.u t) r = bits nT s 5 t x r := by
  by_cases e1 : r = 1
  · simp [bits, putB, e1]
  · by_cases e2 : r = 2
    · simp [bits, putB, e2]
    · by_cases e3 : r = 3 <;> simp [bits, putB, e1, e2, e3]
theorem bits_6 (nT : Nat) (s : MS) (t x r : Nat) : putB (putB (putB (fun _ => false) 1 (decide (s.m t x = 2))) 2 (other nT s.m t x 1 2)) 3 (s.u t) r = bits nT s 6 t x r := by
  by_cases e1 : r = 1
  · simp [bits, putB, e1]
  · by_cases e2 : r = 2
    · simp [bits, putB, e2]
    · by_cases e3 : r = 3 <;> simp [bits, putB, e1, e2, e3]
theorem bits_7 (nT : Nat) (s : MS) (t x r : Nat) : putB (putB (putB (fun _ => false) 1 (decide (s.m t x = 0))) 4 (decide (s.m t x = 2))) 5 (decide (s.m t x = 1) || decide (s.m t x = 2)) r = bits nT s 7 t x r := by
  by_cases e1 : r = 1
  · simp [bits, putB, e1]
  · by_cases e2 : r = 4
    · simp [bits, putB, e2]
    · by_cases e3 : r = 5 <;> simp [bits, putB, e1, e2, e3]
theorem put_self (m : Nat → Nat → Int) (t x : Nat) (kd : Int) (h : after kd (m t x) = m t x) : put m t x (after kd (m t x)) = m := by
  funext t' x'
  unfold put
  split
  · rename_i c
    rw [h, c.1, c.2]
  · rfl
theorem blkSetB {w : World} {B : Nat} {b : Nat → Bool} (h : Blk w B 67 (bcells b)) (r : Nat) (v : Bool) : Blk (w.setCell ⟨B, r, none⟩ (.bool v)) B 67 (bcells (putB b r v)) := by
  have := h.set r (.bool v)
  rwa [bcells_set] at this
theorem blkCongrB {w : World} {B : Nat} {b b' : Nat → Bool} (h : Blk w B 67 (bcells b)) (hb : ∀ r, b r = b' r) : Blk w B 67 (bcells b') := by
  rwa [bcells_congr (fun r _ => hb r)] at h

set_option maxHeartbeats 8000000 in
set_option maxRecDepth 100000 in
theorem model_any (w : World) (go co : Nat) (ops : List (Int × Int × Int)) (nT nX : Nat) (hv : Valid ops nT nX) (hT : nT ≤ 4) (hX : nX ≤ 3) (hl : ops.length ≤ 1024) (hgo : go < w.heap.size) (hop : OpsAt w go ops) :
    Calls Yba.prog 7 #[.slice (some ⟨go, 0, none⟩) ops.length co, .int .i64 nT, .int .i64 nX] w fun e w' => e = .returned (.agg (fcells (mrun nT nX ops ops.length).f)) ∧ Below w.heap.size w w' := by
  have Hv : Hid (Valid ops nT nX) := hv
  have Hop : Hid (OpsAt w go ops) := hop
  clear hv hop
  go_enter Yba.func7, Yba.ntmps7
  go_upto_block 0 with fail
  go_cut [10] (fun r wc => MAt w w.heap.size (fun _ _ => 0) (fun _ => false) (fun _ => -1) wc)
  case first =>
    as_aux_lemma =>
    go_wp2_with fail
    go_loopg [10] 6 (fun g i wr => ∃ k : Nat, k ≤ 6 ∧ g = 6 - k ∧ i = .int .i64 k ∧ MAt w w.heap.size (fun _ _ => 0) (fun _ => false) (fun j => if j < k then -1 else 0) wr)
    case atStart => exact ⟨0, by omega, rfl, rfl, MAt.start w⟩
    case round =>
      obtain ⟨k, hk, rfl, rfl, hm⟩ := hrel
      by_cases hlt : k < 6
      · have hc := hm.f.cellOf (fcells_get _ hlt)
        have hf := hm.f.frozen k
        go_wp2_with fail
        go_roundg (6 - (k + 1))
        case measure => omega
        case rel =>
          refine ⟨k + 1, by omega, rfl, by go_num, (hm.setF k (-1)).congrF fun r hr => ?_⟩
          simp only [putI]
          by_cases e : r = k
          · rw [if_pos e, if_pos (by omega)]
          · by_cases e2 : r < k
            · rw [if_neg e, if_pos e2, if_pos (by omega)]
            · rw [if_neg e, if_neg e2, if_neg (by omega)]
      · obtain rfl : k = 6 := by omega
        go_wp2_with fail
        go_meet
        case rel => exact hm.congrF fun r hr => by rw [if_pos hr]
  case rest =>
    go_upto_block 2 with fail
    go_cut [] (fun wc' => MAt w w.heap.size (mrun nT nX ops ops.length).m (mrun nT nX ops ops.length).u (mrun nT nX ops ops.length).f wc')
    case rest =>
      have hm := hcut
      clear hcut
      obtain ⟨f, hf⟩ : ∃ f, (mrun nT nX ops ops.length).f = f := ⟨_, rfl⟩
      rw [hf] at hm
      have Hf : Hid ((mrun nT nX ops ops.length).f = f) := hf
      clear hf
      have q0 := hm.f.cellOf (fcells_get f (t := 0) (by omega))
      have q1 := hm.f.cellOf (fcells_get f (t := 1) (by omega))
      have q2 := hm.f.cellOf (fcells_get f (t := 2) (by omega))
      have q3 := hm.f.cellOf (fcells_get f (t := 3) (by omega))
      have q4 := hm.f.cellOf (fcells_get f (t := 4) (by omega))
      have q5 := hm.f.cellOf (fcells_get f (t := 5) (by omega))
      have r0 := hm.r.cellOf (fcells_get (fun _ => 0) (t := 0) (by omega))
      have r1 := hm.r.cellOf (fcells_get (fun _ => 0) (t := 1) (by omega))
      have r2 := hm.r.cellOf (fcells_get (fun _ => 0) (t := 2) (by omega))
      have r3 := hm.r.cellOf (fcells_get (fun _ => 0) (t := 3) (by omega))
      have r4 := hm.r.cellOf (fcells_get (fun _ => 0) (t := 4) (by omega))
      have r5 := hm.r.cellOf (fcells_get (fun _ => 0) (t := 5) (by omega))
      have z0 := hm.r.frozen 0
      have z1 := hm.r.frozen 1
      have z2 := hm.r.frozen 2
      have z3 := hm.r.frozen 3
      have z4 := hm.r.frozen 4
      have z5 := hm.r.frozen 5
      go_wp2_with fail
      refine bodyPost_ret (v := .agg (fcells f)) (by simp [results, go_sem, r0, r1, r2, r3, r4, r5]; rfl) rfl ⟨by rw [Hf.out], ?_⟩
      exact (((((hm.b.setCell (p := ⟨w.heap.size, 0, none⟩) (Nat.le_refl _) _).setCell (p := ⟨w.heap.size, 1, none⟩) (Nat.le_refl _) _).setCell (p := ⟨w.heap.size, 2, none⟩) (Nat.le_refl _) _).setCell (p := ⟨w.heap.size, 3, none⟩) (Nat.le_refl _) _).setCell (p := ⟨w.heap.size, 4, none⟩) (Nat.le_refl _) _).setCell (p := ⟨w.heap.size, 5, none⟩) (Nat.le_refl _) _
    case first =>
      go_wp2_with fail
      go_loopg [29] ops.length (fun g i wr => ∃ k : Nat, k ≤ ops.length ∧ g = ops.length - k ∧ i = .int .i64 k ∧ MAt w w.heap.size (mrun nT nX ops k).m (mrun nT nX ops k).u (mrun nT nX ops k).f wr)
      case atStart => exact ⟨0, Nat.zero_le _, rfl, rfl, hcut⟩
      case round =>
        obtain ⟨k, hk, rfl, rfl, hm⟩ := hrel
        by_cases hlt : k < ops.length
        · obtain ⟨d0, d1, d2⟩ := Hop.out.below hm.b hgo k hlt
          have Hk := Hv.out.kind k hlt
          have Ht := Hv.out.txn k hlt
          have Hi := Hv.out.item k hlt
          have Hn3 : Hid (mrun nT nX ops (k + 1) = mstep nT nX (mrun nT nX ops k) k (ops.getD k (0, 0, 0))) := rfl
          obtain ⟨⟨kd, t', x'⟩, ho⟩ : ∃ o, o = ops.getD k (0, 0, 0) := ⟨_, rfl⟩
          rw [← ho] at d0 d1 d2 Hk Ht Hi Hn3
          dsimp only at d0 d1 d2 Hk Ht Hi
          clear ho
          obtain ⟨t, rfl⟩ : ∃ t : Nat, t' = t := ⟨t'.toNat, by omega⟩
          have ht : t < nT := by simpa using Ht.2
          clear Ht
          obtain ⟨⟨m, u, f⟩, hs⟩ : ∃ s, s = mrun nT nX ops k := ⟨_, rfl⟩
          rw [← hs] at hm Hn3
          dsimp only at hm
          clear hs
          go_upto_region 12 with fail
          have hm1 := hm.alloc (Obj.cells #[Value.int .u8 kd, Value.int .i64 (t : Int), Value.int .i64 x'] 34)
          have ho1 := Blk.new wr 34 #[Value.int .u8 kd, Value.int .i64 (t : Int), Value.int .i64 x']
          have hBo : w.heap.size + 1 + 1 + 1 < wr.heap.size := hm.f.lt
          generalize wr.alloc (Obj.cells #[Value.int .u8 kd, Value.int .i64 (t : Int), Value.int .i64 x'] 34) = W1 at *
          generalize wr.heap.size = Bo at *
          clear d0 d1 d2 hm
          have k0 := ho1.cellOf (j := 0) rfl
          have k2 := ho1.cellOf (j := 2) rfl
          go_cut [43] (fun b wc => W1 = wc ∧ b = .bool (decide (kd = 3 ∨ kd = 4)))
          case first =>
            by_cases h3 : kd = 3
            · go_wp2_with fail
              go_meet
              case rel => exact ⟨rfl, by simp [h3]⟩
            · by_cases h4 : kd = 4
              · go_wp2_with fail
                go_meet
                case rel => exact ⟨rfl, by simp [h4]⟩
              · go_wp2_with fail
                go_meet
                case rel => exact ⟨rfl, by simp [h3, h4]⟩
          case rest =>
            obtain ⟨rfl, rfl⟩ := hcut
            by_cases h34 : kd = 3 ∨ kd = 4
            · have hd : decide (kd = 3 ∨ kd = 4) = true := by simpa using h34
              have Hs : Hid (mstep nT nX ⟨m, u, f⟩ k (kd, (t : Int), x') = ⟨fun t' x' => if t' = t ∧ x' < nX ∧ m t' x' ≠ 0 then 3 else m t' x', u, f⟩) := by
                unfold Hid mstep
                rw [if_pos h34]
                simp
              rw [hd]
              as_aux_lemma =>
              clear h34 hd Hi
              go_wp2_with fail
              go_loopg [14] nX (fun g i wx => ∃ j : Nat, j ≤ nX ∧ g = nX - j ∧ i = .int .i64 j ∧ MAt w w.heap.size (fun t' x' => if t' = t ∧ x' < j ∧ m t' x' ≠ 0 then 3 else m t' x') u f wx)
              case atStart => exact ⟨0, Nat.zero_le _, rfl, rfl, by simpa using hm1⟩
              case round =>
                obtain ⟨j, hj, rfl, rfl, hmj⟩ := hrel
                by_cases hjl : j < nX
                · have cm := hmj.m.cellOf (mcells_get _ (t := t) (x := j) (by omega) (by omega))
                  have fm := hmj.m.frozen (t * 3 + j)
                  rw [if_neg (by omega)] at cm
                  by_cases hz : m t j = 0
                  · rw [hz] at cm
                    go_wp2_with fail
                    go_roundg (nX - (j + 1))
                    case measure => omega
                    case rel =>
                      refine ⟨j + 1, by omega, rfl, by go_num, hmj.congrM fun t' x'' _ _ => ?_⟩
                      by_cases e : t' = t ∧ x'' = j
                      · obtain ⟨rfl, rfl⟩ := e
                        simp [hz]
                      · by_cases e2 : t' = t ∧ x'' < j ∧ m t' x'' ≠ 0
                        · rw [if_pos e2, if_pos ⟨e2.1, by omega, e2.2.2⟩]
                        · rw [if_neg e2, if_neg (fun c => e2 ⟨c.1, by have := c.2.1; have : x'' ≠ j := fun q => e ⟨c.1, q⟩; omega, c.2.2⟩)]
                  · generalize hv' : m t j = v at *
                    have hz' : ((v != 0)) = true := by simpa using hz
                    have Hv' : Hid (m t j = v) := hv'
                    have Hz : Hid (¬ v = 0) := hz
                    clear hv' hz
                    go_wp2_with fail
                    go_roundg (nX - (j + 1))
                    case measure => omega
                    case rel =>
                      refine ⟨j + 1, by omega, rfl, by go_num, (hmj.setM (t := t) (x := j) (by omega) (by omega) 3).congrM fun t' x'' _ _ => ?_⟩
                      simp only [put]
                      by_cases e : t' = t ∧ x'' = j
                      · obtain ⟨rfl, rfl⟩ := e
                        simp [Hv'.out, Hz.out]
                      · rw [if_neg e]
                        by_cases e2 : t' = t ∧ x'' < j ∧ m t' x'' ≠ 0
                        · rw [if_pos e2, if_pos ⟨e2.1, by omega, e2.2.2⟩]
                        · rw [if_neg e2, if_neg (fun c => e2 ⟨c.1, by have := c.2.1; have : x'' ≠ j := fun q => e ⟨c.1, q⟩; omega, c.2.2⟩)]
                · obtain rfl : j = nX := by omega
                  go_wp2_with fail
                  go_roundg (ops.length - (k + 1))
                  case measure => omega
                  case rel =>
                    refine ⟨k + 1, by omega, rfl, by go_num, ?_⟩
                    rw [Hn3.out, Hs.out]
                    exact hmj
            · have hd : decide (kd = 3 ∨ kd = 4) = false := by simpa using h34
              rw [hd]
              obtain ⟨x, rfl⟩ : ∃ x : Nat, x' = x := ⟨x'.toNat, by have := Hi (by omega) (by omega); omega⟩
              have hx : x < nX := by have := Hi (by omega) (by omega); simpa using this.2
              clear Hi
              have cm := hm1.m.cellOf (mcells_get m (t := t) (x := x) (by omega) (by omega))
              have hkds : kd = 1 ∨ kd = 2 ∨ kd = 5 ∨ kd = 6 ∨ kd = 7 := by omega
              have Hs : Hid (mstep nT nX ⟨m, u, f⟩ k (kd, (t : Int), (x : Int)) = ⟨put m t x (after kd (m t x)), if kd = 7 then putB u t true else u, newf f (bits nT ⟨m, u, f⟩ kd t x) k⟩) := by
                unfold Hid mstep
                rw [if_neg h34]
                simp
              clear h34 hd Hk
              obtain ⟨v, hv'⟩ : ∃ v, m t x = v := ⟨_, rfl⟩
              have Hv' : Hid (m t x = v) := hv'
              rw [hv'] at cm
              clear hv'
              have k0' : ∀ o, (W1.alloc o).cell? ⟨Bo, 0, none⟩ = some (.int .u8 kd) := fun o => (ho1.alloc o).cellOf rfl
              go_upto_block 6 with fail
              have hm2 := hm1.alloc (Obj.cells #[Value.bool false, Value.bool false, Value.bool false, Value.bool false, Value.bool false, Value.bool false] 67)
              have hb2 : Blk (W1.alloc (Obj.cells #[Value.bool false, Value.bool false, Value.bool false, Value.bool false, Value.bool false, Value.bool false] 67)) W1.heap.size 67 (bcells fun _ => false) := Blk.new W1 67 _
              have hBb : w.heap.size + 1 + 1 + 1 < W1.heap.size := hm1.f.lt
              generalize W1.alloc (Obj.cells #[Value.bool false, Value.bool false, Value.bool false, Value.bool false, Value.bool false, Value.bool false] 67) = W2 at *
              generalize W1.heap.size = Bb at *
              clear cm hm1 ho1 k0 k2 k0'
              go_cut [] (fun wc => MAt w w.heap.size (put m t x (after kd (m t x))) (if kd = 7 then putB u t true else u) f wc ∧ Blk wc Bb 67 (bcells (bits nT ⟨m, u, f⟩ kd t x)))
              case first =>
                as_aux_lemma =>
                clear Hs Hn3
                have bf1 := hb2.frozen 1
                have bc1 := hb2.cellOf (bcells_get _ (t := 1) (by omega))
                rcases hkds with rfl | rfl | rfl | rfl | rfl
                · as_aux_lemma =>
                  by_cases h1 : v = 1
                  · subst h1
                    go_wp2_with fail
                    go_meet
                    case rel => exact ⟨by rw [put_self m t x 1 (by simp [after]), if_neg (by decide)]; exact hm2.setO Bb 1 (by omega) _, blkCongrB (blkSetB hb2 1 _) fun r => by rw [← bits_1]; simp [Hv'.out]⟩
                  · by_cases h2 : v = 2
                    · subst h2
                      go_wp2_with fail
                      go_meet
                      case rel => exact ⟨by rw [put_self m t x 1 (by simp [after]), if_neg (by decide)]; exact hm2.setO Bb 1 (by omega) _, blkCongrB (blkSetB hb2 1 _) fun r => by rw [← bits_1]; simp [Hv'.out]⟩
                    · have e1 : (v != 1) = true := by simpa using h1
                      have e2 : (v != 2) = true := by simpa using h2
                      have H1 : Hid (¬ v = 1) := h1
                      have H2 : Hid (¬ v = 2) := h2
                      clear h1 h2
                      go_wp2_with fail
                      go_meet
                      case rel => exact ⟨by rw [put_self m t x 1 (by simp [after]), if_neg (by decide)]; exact hm2.setO Bb 1 (by omega) _, blkCongrB (blkSetB hb2 1 _) fun r => by rw [← bits_1]; simp [Hv'.out, H1.out, H2.out]⟩
                · as_aux_lemma =>
                  obtain ⟨b1, e1⟩ : ∃ b1 : Bool, (v != 2) = b1 := ⟨_, rfl⟩
                  have E1 : Hid (b1 = decide (v ≠ 2)) := (by rw [← e1]; by_cases h : v = 2 <;> simp [h] : b1 = decide (v ≠ 2))
                  go_wp2_with fail
                  go_meet
                  case rel => exact ⟨by rw [put_self m t x 2 (by simp [after]), if_neg (by decide)]; exact hm2.setO Bb 1 (by omega) _, blkCongrB (blkSetB hb2 1 _) fun r => by rw [← bits_2, E1.out]; simp [Hv'.out]⟩
                · as_aux_lemma =>
                  obtain ⟨b1, e1⟩ : ∃ b1 : Bool, (v != 0) = b1 := ⟨_, rfl⟩
                  have E1 : Hid (b1 = decide (v ≠ 0)) := (by rw [← e1]; by_cases h : v = 0 <;> simp [h] : b1 = decide (v ≠ 0))
                  have e2 : (v == 0) = !b1 := by rw [← e1, bne, Bool.not_not]
                  go_wp2_with fail
                  go_loopg [18] nT (fun g i wx => ∃ j : Nat, j ≤ nT ∧ g = nT - j ∧ i = .int .i64 j ∧ MAt w w.heap.size m u f wx ∧ Blk wx Bb 67 (bcells (putB (putB (fun _ => false) 1 b1) 2 (oth m t x 2 2 j))))
                  case atStart => exact ⟨0, Nat.zero_le _, rfl, rfl, hm2.setO Bb 1 (by omega) _, blkCongrB (blkSetB hb2 1 _) fun r => by by_cases e : r = 2 <;> simp [putB, oth, e]⟩
                  case round =>
                    obtain ⟨j, hj, rfl, rfl, hmj, hbj⟩ := hrel
                    have bf2 := hbj.frozen 2
                    have bc2 := hbj.cellOf (bcells_get _ (t := 2) (by omega))
                    by_cases hjl : j < nT
                    · have cmj := hmj.m.cellOf (mcells_get m (t := j) (x := x) (by omega) (by omega))
                      have HO : Hid (oth m t x 2 2 (j + 1) = (oth m t x 2 2 j || (decide (j ≠ t) && (decide (m j x = 2) || decide (m j x = 2))))) := oth_succ _ _ _ _ _ _
                      obtain ⟨mv, hmv⟩ : ∃ mv, m j x = mv := ⟨_, rfl⟩
                      rw [hmv] at cmj HO
                      clear hmv
                      by_cases hjt : j = t
                      · have hjt' : ((j : Int) != (t : Int)) = false := by simp [hjt]
                        have HJ : Hid (j = t) := hjt
                        clear hjt
                        go_wp2_with fail
                        go_roundg (nT - (j + 1))
                        case measure => omega
                        case rel => exact ⟨j + 1, by omega, rfl, by go_num, hmj, blkCongrB hbj fun r => by rw [HO.out]; simp [HJ.out]⟩
                      · have hjt' : ((j : Int) != (t : Int)) = true := by simp; omega
                        have HJ : Hid (¬ j = t) := hjt
                        clear hjt
                        by_cases h2 : mv = 2
                        · subst h2
                          go_wp2_with fail
                          go_roundg (nT - (j + 1))
                          case measure => omega
                          case rel => exact ⟨j + 1, by omega, rfl, by go_num, hmj.setO Bb 2 (by omega) _, blkCongrB (blkSetB hbj 2 true) fun r => by rw [HO.out]; by_cases e : r = 2 <;> simp [putB, e, HJ.out]⟩
                        · have h2' : (mv == 2) = false := by simpa using h2
                          have H2 : Hid (¬ mv = 2) := h2
                          clear h2
                          go_wp2_with fail
                          go_roundg (nT - (j + 1))
                          case measure => omega
                          case rel => exact ⟨j + 1, by omega, rfl, by go_num, hmj, blkCongrB hbj fun r => by rw [HO.out]; simp [HJ.out, H2.out]⟩
                    · obtain rfl : j = nT := by omega
                      have cu := hmj.u.cellOf (ucells_get u (t := t) (by omega))
                      have bf3 := hbj.frozen 3
                      have bc3 := hbj.cellOf (bcells_get _ (t := 3) (by omega))
                      have mf := hmj.m.frozen (t * 3 + x)
                      have mc := hmj.m.cellOf (mcells_get m (t := t) (x := x) (by omega) (by omega))
                      rw [Hv'.out] at mc
                      obtain ⟨uv, huv⟩ : ∃ uv, u t = uv := ⟨_, rfl⟩
                      have Huv : Hid (u t = uv) := huv
                      rw [huv] at cu
                      clear huv
                      have mc' : ∀ b3, (wr.setCell ⟨Bb, 3, none⟩ b3).cell? ⟨w.heap.size + 1, t * 3 + x, none⟩ = some (.int .u8 v) := fun b3 => by
                        have := (hmj.setO Bb 3 (by omega) b3).m.cellOf (mcells_get m (t := t) (x := x) (by omega) (by omega))
                        rwa [Hv'.out] at this
                      cases b1 with
                      | true =>
                        go_wp2_with fail
                        go_meet
                        case rel =>
                          have hv0 : v ≠ 0 := by have := E1.out; simpa using this
                          exact ⟨by rw [put_self m t x 5 (by simp [after, Hv'.out, hv0]), if_neg (by decide)]; exact hmj.setO Bb 3 (by omega) _, blkCongrB (blkSetB hbj 3 _) fun r => by rw [← bits_5, oth_other, ← Huv.out]; simp [Hv'.out, hv0]⟩
                      | false =>
                        have hv0 : v = 0 := by have := E1.out; simpa using this
                        subst hv0
                        go_wp2_with fail
                        go_meet
                        case rel =>
                          refine ⟨?_, ?_⟩
                          · rw [if_neg (by decide), show after 5 (m t x) = 1 by simp [after, Hv'.out]]
                            exact (hmj.setO Bb 3 (by omega) _).setM (by omega) (by omega) 1
                          · exact Blk.setOther (a := ⟨w.heap.size + 1, t * 3 + x, none⟩) (blkCongrB (blkSetB hbj 3 _) fun r => by rw [← bits_5, oth_other, ← Huv.out]; simp [Hv'.out]) (by show Bb ≠ w.heap.size + 1; omega) _
                · as_aux_lemma =>
                  obtain ⟨b1, e1⟩ : ∃ b1 : Bool, (v == 2) = b1 := ⟨_, rfl⟩
                  have E1 : Hid (b1 = decide (v = 2)) := (by rw [← e1]; by_cases h : v = 2 <;> simp [h] : b1 = decide (v = 2))
                  go_wp2_with fail
                  go_loopg [19] nT (fun g i wx => ∃ j : Nat, j ≤ nT ∧ g = nT - j ∧ i = .int .i64 j ∧ MAt w w.heap.size m u f wx ∧ Blk wx Bb 67 (bcells (putB (putB (fun _ => false) 1 b1) 2 (oth m t x 1 2 j))))
                  case atStart => exact ⟨0, Nat.zero_le _, rfl, rfl, hm2.setO Bb 1 (by omega) _, blkCongrB (blkSetB hb2 1 _) fun r => by by_cases e : r = 2 <;> simp [putB, oth, e]⟩
                  case round =>
                    obtain ⟨j, hj, rfl, rfl, hmj, hbj⟩ := hrel
                    have bf2 := hbj.frozen 2
                    have bc2 := hbj.cellOf (bcells_get _ (t := 2) (by omega))
                    by_cases hjl : j < nT
                    · have cmj := hmj.m.cellOf (mcells_get m (t := j) (x := x) (by omega) (by omega))
                      have HO : Hid (oth m t x 1 2 (j + 1) = (oth m t x 1 2 j || (decide (j ≠ t) && (decide (m j x = 1) || decide (m j x = 2))))) := oth_succ _ _ _ _ _ _
                      obtain ⟨mv, hmv⟩ : ∃ mv, m j x = mv := ⟨_, rfl⟩
                      rw [hmv] at cmj HO
                      clear hmv
                      by_cases hjt : j = t
                      · have hjt' : ((j : Int) != (t : Int)) = false := by simp [hjt]
                        have HJ : Hid (j = t) := hjt
                        clear hjt
                        go_wp2_with fail
                        go_roundg (nT - (j + 1))
                        case measure => omega
                        case rel => exact ⟨j + 1, by omega, rfl, by go_num, hmj, blkCongrB hbj fun r => by rw [HO.out]; simp [HJ.out]⟩
                      · have hjt' : ((j : Int) != (t : Int)) = true := by simp; omega
                        have HJ : Hid (¬ j = t) := hjt
                        clear hjt
                        by_cases h1 : mv = 1
                        · subst h1
                          go_wp2_with fail
                          go_roundg (nT - (j + 1))
                          case measure => omega
                          case rel => exact ⟨j + 1, by omega, rfl, by go_num, hmj.setO Bb 2 (by omega) _, blkCongrB (blkSetB hbj 2 true) fun r => by rw [HO.out]; by_cases e : r = 2 <;> simp [putB, e, HJ.out]⟩
                        · by_cases h2 : mv = 2
                          · subst h2
                            go_wp2_with fail
                            go_roundg (nT - (j + 1))
                            case measure => omega
                            case rel => exact ⟨j + 1, by omega, rfl, by go_num, hmj.setO Bb 2 (by omega) _, blkCongrB (blkSetB hbj 2 true) fun r => by rw [HO.out]; by_cases e : r = 2 <;> simp [putB, e, HJ.out]⟩
                          · have h2' : (mv == 2) = false := by simpa using h2
                            have h1' : (mv == 1) = false := by simpa using h1
                            have H1 : Hid (¬ mv = 1) := h1
                            have H2 : Hid (¬ mv = 2) := h2
                            clear h1 h2
                            go_wp2_with fail
                            go_roundg (nT - (j + 1))
                            case measure => omega
                            case rel => exact ⟨j + 1, by omega, rfl, by go_num, hmj, blkCongrB hbj fun r => by rw [HO.out]; simp [HJ.out, H1.out, H2.out]⟩
                    · obtain rfl : j = nT := by omega
                      have cu := hmj.u.cellOf (ucells_get u (t := t) (by omega))
                      have bf3 := hbj.frozen 3
                      have bc3 := hbj.cellOf (bcells_get _ (t := 3) (by omega))
                      have mf := hmj.m.frozen (t * 3 + x)
                      have mc := hmj.m.cellOf (mcells_get m (t := t) (x := x) (by omega) (by omega))
                      rw [Hv'.out] at mc
                      obtain ⟨uv, huv⟩ : ∃ uv, u t = uv := ⟨_, rfl⟩
                      have Huv : Hid (u t = uv) := huv
                      rw [huv] at cu
                      clear huv
                      have mc' : ∀ b3, (wr.setCell ⟨Bb, 3, none⟩ b3).cell? ⟨w.heap.size + 1, t * 3 + x, none⟩ = some (.int .u8 v) := fun b3 => by
                        have := (hmj.setO Bb 3 (by omega) b3).m.cellOf (mcells_get m (t := t) (x := x) (by omega) (by omega))
                        rwa [Hv'.out] at this
                      go_wp2_with fail
                      go_meet
                      case rel =>
                        refine ⟨?_, ?_⟩
                        · rw [if_neg (by decide), show after 6 (m t x) = 2 by simp [after]]
                          exact (hmj.setO Bb 3 (by omega) _).setM (by omega) (by omega) 2
                        · exact Blk.setOther (a := ⟨w.heap.size + 1, t * 3 + x, none⟩) (blkCongrB (blkSetB hbj 3 _) fun r => by rw [← bits_6, oth_other, ← Huv.out, E1.out]; simp [Hv'.out]) (by show Bb ≠ w.heap.size + 1; omega) _
                · as_aux_lemma =>
                  obtain ⟨b1, e1⟩ : ∃ b1 : Bool, (v == 0) = b1 := ⟨_, rfl⟩
                  have E1 : Hid (b1 = decide (v = 0)) := (by rw [← e1]; by_cases h : v = 0 <;> simp [h] : b1 = decide (v = 0))
                  obtain ⟨b4, e4⟩ : ∃ b4 : Bool, (v == 2) = b4 := ⟨_, rfl⟩
                  have E4 : Hid (b4 = decide (v = 2)) := (by rw [← e4]; by_cases h : v = 2 <;> simp [h] : b4 = decide (v = 2))
                  obtain ⟨b5, e5⟩ : ∃ b5 : Bool, (v == 1) = b5 := ⟨_, rfl⟩
                  have E5 : Hid (b5 = decide (v = 1)) := (by rw [← e5]; by_cases h : v = 1 <;> simp [h] : b5 = decide (v = 1))
                  have bf4 := hb2.frozen 4
                  have bc4 := hb2.cellOf (bcells_get _ (t := 4) (by omega))
                  have bf5 := hb2.frozen 5
                  have bc5 := hb2.cellOf (bcells_get _ (t := 5) (by omega))
                  have cu := hm2.u.cellOf (ucells_get u (t := t) (by omega))
                  have fu := hm2.u.frozen t
                  have mf := hm2.m.frozen (t * 3 + x)
                  have mc := hm2.m.cellOf (mcells_get m (t := t) (x := x) (by omega) (by omega))
                  have Hne : Hid (Bb ≠ w.heap.size + 1) := (by show Bb ≠ w.heap.size + 1; omega)
                  have Hne2 : Hid (Bb ≠ w.heap.size + 1 + 1) := (by show Bb ≠ w.heap.size + 1 + 1; omega)
                  cases b5 with
                  | true =>
                    go_wp2_with fail
                    go_meet
                    case rel =>
                      have hv1 : v = 1 := by have := E5.out; simpa using this
                      refine ⟨?_, ?_⟩
                      · rw [if_pos trivial, show after 7 (m t x) = 0 by simp [after]]
                        exact ((((hm2.setO Bb 1 (by omega) _).setO Bb 4 (by omega) _).setO Bb 5 (by omega) _).setU t true).setM (by omega) (by omega) 0
                      · exact Blk.setOther (a := ⟨w.heap.size + 1, t * 3 + x, none⟩) (Blk.setOther (a := ⟨w.heap.size + 1 + 1, t, none⟩) (blkCongrB (blkSetB (blkSetB (blkSetB hb2 1 _) 4 _) 5 _) fun r => by rw [← bits_7, E1.out, E4.out]; simp [Hv'.out, hv1]) Hne2.out _) Hne.out _
                  | false =>
                    go_wp2_with fail
                    go_meet
                    case rel =>
                      have hv1 : v ≠ 1 := by have := E5.out; simpa using this
                      refine ⟨?_, ?_⟩
                      · rw [if_pos trivial, show after 7 (m t x) = 0 by simp [after]]
                        exact ((((hm2.setO Bb 1 (by omega) _).setO Bb 4 (by omega) _).setO Bb 5 (by omega) _).setU t true).setM (by omega) (by omega) 0
                      · exact Blk.setOther (a := ⟨w.heap.size + 1, t * 3 + x, none⟩) (Blk.setOther (a := ⟨w.heap.size + 1 + 1, t, none⟩) (blkCongrB (blkSetB (blkSetB (blkSetB hb2 1 _) 4 _) 5 _) fun r => by rw [← bits_7, E1.out, E4.out]; simp [Hv'.out, hv1]) Hne2.out _) Hne.out _
              case rest =>
                as_aux_lemma =>
                obtain ⟨hm3, hb3⟩ := hcut
                clear hm2 hb2
                obtain ⟨bb, hbb⟩ : ∃ bb, bits nT ⟨m, u, f⟩ kd t x = bb := ⟨_, rfl⟩
                rw [hbb] at hb3
                have Hs' : Hid (mstep nT nX ⟨m, u, f⟩ k (kd, (t : Int), (x : Int)) = ⟨put m t x (after kd (m t x)), if kd = 7 then putB u t true else u, newf f bb k⟩) := by rw [← hbb]; exact Hs.out
                clear hbb Hs
                generalize put m t x (after kd (m t x)) = m' at *
                generalize (if kd = 7 then putB u t true else u) = u' at *
                go_wp2_with fail
                go_loopg [20] 6 (fun g i wx => ∃ r : Nat, r ≤ 6 ∧ g = 6 - r ∧ i = .int .i64 r ∧ MAt w w.heap.size m' u' (fun j => if j < r then newf f bb k j else f j) wx ∧ Blk wx Bb 67 (bcells bb))
                case atStart => exact ⟨0, Nat.zero_le _, rfl, rfl, by simpa using hm3, hb3⟩
                case round =>
                  obtain ⟨r, hr, rfl, rfl, hmr, hbr⟩ := hrel
                  by_cases hrl : r < 6
                  · have cb := hbr.cellOf (bcells_get bb hrl)
                    have cf := hmr.f.cellOf (fcells_get _ hrl)
                    have ff := hmr.f.frozen r
                    rw [if_neg (by omega)] at cf
                    obtain ⟨fv, hfv⟩ : ∃ fv, f r = fv := ⟨_, rfl⟩
                    rw [hfv] at cf
                    have Hfv : Hid (f r = fv) := hfv
                    clear hfv
                    cases hbv : bb r with
                    | false =>
                      rw [hbv] at cb
                      have Hbv : Hid (bb r = false) := hbv
                      clear hbv
                      go_wp2_with fail
                      go_roundg (6 - (r + 1))
                      case measure => omega
                      case rel =>
                        refine ⟨r + 1, by omega, rfl, by go_num, hmr.congrF fun j hj => ?_, hbr⟩
                        by_cases e : j = r
                        · subst e
                          rw [if_neg (by omega), if_pos (by omega), newf, if_neg (by rw [Hbv.out]; simp)]
                        · by_cases e2 : j < r
                          · rw [if_pos e2, if_pos (by omega)]
                          · rw [if_neg e2, if_neg (by omega)]
                    | true =>
                      rw [hbv] at cb
                      have Hbv : Hid (bb r = true) := hbv
                      clear hbv
                      by_cases hfn : fv < 0
                      · have hfd : decide (fv < 0) = true := by simpa using hfn
                        have Hfn : Hid (fv < 0) := hfn
                        clear hfn
                        go_wp2_with fail
                        go_roundg (6 - (r + 1))
                        case measure => omega
                        case rel =>
                          refine ⟨r + 1, by omega, rfl, by go_num, (hmr.setF r (k : Int)).congrF fun j hj => ?_, hbr.setOther (a := ⟨w.heap.size + 1 + 1 + 1, r, none⟩) (by simp; omega) _⟩
                          simp only [putI]
                          by_cases e : j = r
                          · subst e
                            rw [if_pos rfl, if_pos (by omega), newf, if_pos ⟨Hbv.out, by rw [Hfv.out]; exact Hfn.out⟩]
                          · rw [if_neg e]
                            by_cases e2 : j < r
                            · rw [if_pos e2, if_pos (by omega)]
                            · rw [if_neg e2, if_neg (by omega)]
                      · have hfd : decide (fv < 0) = false := by simpa using hfn
                        have Hfn : Hid (¬ fv < 0) := hfn
                        clear hfn
                        go_wp2_with fail
                        go_roundg (6 - (r + 1))
                        case measure => omega
                        case rel =>
                          refine ⟨r + 1, by omega, rfl, by go_num, hmr.congrF fun j hj => ?_, hbr⟩
                          by_cases e : j = r
                          · subst e
                            rw [if_neg (by omega), if_pos (by omega), newf, if_neg (fun c => absurd c.2 (by have h1 := Hfn.out; rw [Hfv.out]; omega))]
                          · by_cases e2 : j < r
                            · rw [if_pos e2, if_pos (by omega)]
                            · rw [if_neg e2, if_neg (by omega)]
                  · obtain rfl : r = 6 := by omega
                    go_wp2_with fail
                    go_roundg (ops.length - (k + 1))
                    case measure => omega
                    case rel =>
                      refine ⟨k + 1, by omega, rfl, by go_num, ?_⟩
                      rw [Hn3.out, Hs'.out]
                      exact hmr.congrF fun j hj => by rw [if_pos hj]
        · obtain rfl : k = ops.length := by omega
          go_wp2_with fail
          go_meet
          case rel => exact hm
end Go.Proofs.Ybulkri.A
