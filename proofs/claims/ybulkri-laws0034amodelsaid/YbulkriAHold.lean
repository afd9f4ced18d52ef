/-
  LawS0034AModel: CheckLocks' 'hold'.
-/
import Derived.Test.YbulkriATable
import Derived.Test.YbulkriAModel
import Derived.Deep.CutRange
namespace Go.Proofs.Ybulkri.A
open Go.RowKit
set_option linter.unusedVariables false
set_option linter.unusedSimpArgs false

def rowU (f : Nat → Int) (n : Nat) : Array Value := ((List.range n).map fun j => Value.int .u8 (f j)).toArray
def rowI (f : Nat → Int) (n : Nat) : Array Value := ((List.range n).map fun j => Value.int .i64 (f j)).toArray
theorem rowU_get (f : Nat → Int) {n j : Nat} (h : j < n) : (rowU f n)[j]? = some (.int .u8 (f j)) := by simp [rowU, h]
theorem rowI_get (f : Nat → Int) {n j : Nat} (h : j < n) : (rowI f n)[j]? = some (.int .i64 (f j)) := by simp [rowI, h]
theorem rowU_set (f : Nat → Int) {n j : Nat} (v : Int) : (rowU f n).setIfInBounds j (.int .u8 v) = rowU (putI f j v) n := by
  apply Array.ext
  · simp [rowU]
  · intro i h1 h2
    rw [Array.getElem_setIfInBounds (by simpa using h1)]
    simp only [rowU, List.getElem_toArray, List.getElem_map, List.getElem_range, putI]
    by_cases e : j = i
    · rw [if_pos e, if_pos e.symm]
    · rw [if_neg e, if_neg (Ne.symm e)]
theorem rowI_set (f : Nat → Int) {n j : Nat} (v : Int) : (rowI f n).setIfInBounds j (.int .i64 v) = rowI (putI f j v) n := by
  apply Array.ext
  · simp [rowI]
  · intro i h1 h2
    rw [Array.getElem_setIfInBounds (by simpa using h1)]
    simp only [rowI, List.getElem_toArray, List.getElem_map, List.getElem_range, putI]
    by_cases e : j = i
    · rw [if_pos e, if_pos e.symm]
    · rw [if_neg e, if_neg (Ne.symm e)]
theorem rowI_congr {f g : Nat → Int} {n : Nat} (h : ∀ j, j < n → f j = g j) : rowI f n = rowI g n := by
  unfold rowI
  rw [List.map_congr_left (g := fun j => Value.int .i64 (g j)) (fun j hj => by rw [h j (List.mem_range.1 hj)])]

/-- the blocks that 'hold' writes -/
structure Kept3 (a b c : Nat) (w w' : World) : Prop where
  os : w'.os = w.os
  tape : w'.tape = w.tape
  output : w'.output = w.output
  size : w'.heap.size = w.heap.size
  block : ∀ k, k ≠ a → k ≠ b → k ≠ c → w'.heap[k]? = w.heap[k]?

theorem Kept3.refl (a b c : Nat) (w : World) : Kept3 a b c w w := ⟨rfl, rfl, rfl, rfl, fun _ _ _ _ => rfl⟩
theorem Kept3.set {a b c : Nat} {w w' : World} (h : Kept3 a b c w w') (p : Addr) (hp : p.block = a ∨ p.block = b ∨ p.block = c) (v : Value) : Kept3 a b c w (w'.setCell p v) :=
  ⟨h.os, h.tape, h.output, by rw [← h.size]; simp [World.setCell], fun k h1 h2 h3 => by rw [Below.heap_setCell _ _ _ _ (by rcases hp with e | e | e <;> rw [e] <;> assumption)]; exact h.block k h1 h2 h3⟩
theorem Kept3.blk {a b c g : Nat} {w w' : World} {e : TypeId} {cur : Array Value} (h : Kept3 a b c w w') (hb : Blk w g e cur) (h1 : g ≠ a) (h2 : g ≠ b) (h3 : g ≠ c) : Blk w' g e cur := by
  unfold Blk
  rw [h.block g h1 h2 h3]
  exact hb
theorem Kept3.below {a b c B : Nat} {w0 w w' : World} (h : Kept3 a b c w w') (hb : Below B w0 w) (h1 : B ≤ a) (h2 : B ≤ b) (h3 : B ≤ c) : Below B w0 w' :=
  hb.trans ⟨h.os, h.tape, h.output, by rw [h.size]; exact Nat.le_refl _, fun k hk => h.block k (by omega) (by omega) (by omega)⟩

/-- CheckLocks' rows -/
structure CL (W : World) (gm gsh gex nk nX : Nat) (md sh ex : Nat → Int) : Prop where
  m : Blk W gm 61 (rowU md nk)
  s : Blk W gsh 3 (rowI sh nX)
  x : Blk W gex 3 (rowI ex nX)
  ne : gsh ≠ gex

section
variable {W : World} {gm gsh gex nk nX : Nat} {md sh ex : Nat → Int}
theorem CL.alloc (h : CL W gm gsh gex nk nX md sh ex) (o : Obj) : CL (W.alloc o) gm gsh gex nk nX md sh ex := ⟨h.m.alloc o, h.s.alloc o, h.x.alloc o, h.ne⟩
theorem CL.setM (h : CL W gm gsh gex nk nX md sh ex) (j : Nat) (v : Int) : CL (W.setCell ⟨gm, j, none⟩ (.int .u8 v)) gm gsh gex nk nX (putI md j v) sh ex :=
  ⟨by have := h.m.set j (.int .u8 v); rwa [rowU_set] at this, h.s.setOther (a := ⟨gm, j, none⟩) (h.s.ne h.m (by decide)) _, h.x.setOther (a := ⟨gm, j, none⟩) (h.x.ne h.m (by decide)) _, h.ne⟩
theorem CL.setS (h : CL W gm gsh gex nk nX md sh ex) (j : Nat) (v : Int) : CL (W.setCell ⟨gsh, j, none⟩ (.int .i64 v)) gm gsh gex nk nX md (putI sh j v) ex :=
  ⟨h.m.setOther (a := ⟨gsh, j, none⟩) (h.m.ne h.s (by decide)) _, by have := h.s.set j (.int .i64 v); rwa [rowI_set] at this, h.x.setOther (a := ⟨gsh, j, none⟩) (Ne.symm h.ne) _, h.ne⟩
theorem CL.setX (h : CL W gm gsh gex nk nX md sh ex) (j : Nat) (v : Int) : CL (W.setCell ⟨gex, j, none⟩ (.int .i64 v)) gm gsh gex nk nX md sh (putI ex j v) :=
  ⟨h.m.setOther (a := ⟨gex, j, none⟩) (h.m.ne h.x (by decide)) _, h.s.setOther (a := ⟨gex, j, none⟩) h.ne _, by have := h.x.set j (.int .i64 v); rwa [rowI_set] at this, h.ne⟩
theorem CL.congr {sh' ex' : Nat → Int} (h : CL W gm gsh gex nk nX md sh ex) (h1 : ∀ j, sh j = sh' j) (h2 : ∀ j, ex j = ex' j) : CL W gm gsh gex nk nX md sh' ex' :=
  ⟨h.m, by have := h.s; rwa [rowI_congr (fun j _ => h1 j)] at this, by have := h.x; rwa [rowI_congr (fun j _ => h2 j)] at this, h.ne⟩
end

theorem putI_self (f : Nat → Int) (j : Nat) (v : Int) (h : f j = v) : ∀ i, f i = putI f j v i := by
  intro i
  unfold putI
  split
  · rename_i e; rw [e, h]
  · rfl

def bump (a v0 v t : Int) : Int := a - (if v0 = t then 1 else 0) + (if v = t then 1 else 0)

set_option maxHeartbeats 4000000 in
set_option maxRecDepth 100000 in
/-- 'hold(k, v)' -/
theorem hold_any {w : World} {T Bm Bs Bx gm gsh gex nk nX N : Nat} {ao : Option Addr} {cap : Nat} {L : List (Nat × Nat)} {md sh ex : Nat → Int} (hnk : nk = L.length) (hl : L.length ≤ 4096) (hX : nX ≤ 4096)
    (cT : w.cell? ⟨T, 0, none⟩ = some (.slice ao L.length cap)) (hs : SpAt w N ao L) (bm : Blk w Bm 59 #[.slice (some ⟨gm, 0, none⟩) nk nk]) (bs : Blk w Bs 29 #[.slice (some ⟨gsh, 0, none⟩) nX nX]) (bx : Blk w Bx 29 #[.slice (some ⟨gex, 0, none⟩) nX nX]) (hc : CL w gm gsh gex nk nX md sh ex)
    {k x : Nat} (hk : k < nk) (hx : (L.getD k (0, 0)).2 = x) (hxX : x < nX) (v : Int) (hv : v = 0 ∨ v = 1 ∨ v = 2 ∨ v = 3) (hmd : md k = 0 ∨ md k = 1 ∨ md k = 2 ∨ md k = 3) (hshb : -4096 ≤ sh x ∧ sh x ≤ 4096) (hexb : -4096 ≤ ex x ∧ ex x ≤ 4096) :
    Calls Yba.prog 15 #[.int .i64 k, .int .u8 v, .pointer (some ⟨T, 0, none⟩), .pointer (some ⟨Bm, 0, none⟩), .pointer (some ⟨Bs, 0, none⟩), .pointer (some ⟨Bx, 0, none⟩)] w fun e w' => (∃ u, e = .returned u) ∧ Kept3 gm gsh gex w w' ∧
      CL w' gm gsh gex nk nX (putI md k v) (putI sh x (bump (sh x) (md k) v 1)) (putI ex x (bump (ex x) (md k) v 2)) := by
  subst hnk
  obtain ⟨g0, rfl, _, hsp⟩ := hs (by omega)
  have c1 := (hsp k hk).2.1
  rw [hx] at c1
  clear hsp hx hs
  have hBm : Bm ≠ gsh ∧ Bm ≠ gex ∧ Bs ≠ gsh ∧ Bs ≠ gex ∧ Bx ≠ gsh ∧ Bx ≠ gex := ⟨bm.ne hc.s (by decide), bm.ne hc.x (by decide), bs.ne hc.s (by decide), bs.ne hc.x (by decide), bx.ne hc.s (by decide), bx.ne hc.x (by decide)⟩
  have cm := hc.m.cellOf (rowU_get md hk)
  have cbm : w.cell? ⟨Bm, 0, none⟩ = some (.slice (some ⟨gm, 0, none⟩) L.length L.length) := bm.cellOf (j := 0) rfl
  have cbs : w.cell? ⟨Bs, 0, none⟩ = some (.slice (some ⟨gsh, 0, none⟩) nX nX) := bs.cellOf (j := 0) rfl
  have cbx : w.cell? ⟨Bx, 0, none⟩ = some (.slice (some ⟨gex, 0, none⟩) nX nX) := bx.cellOf (j := 0) rfl
  have cs := hc.s.cellOf (rowI_get sh hxX)
  have cx := hc.x.cellOf (rowI_get ex hxX)
  have fs := hc.s.frozen x
  have fx := hc.x.frozen x
  obtain ⟨a, ha⟩ : ∃ a, sh x = a := ⟨_, rfl⟩
  obtain ⟨b, hb⟩ : ∃ b, ex x = b := ⟨_, rfl⟩
  obtain ⟨v0, hv0⟩ : ∃ v0, md k = v0 := ⟨_, rfl⟩
  rw [ha] at cs hshb
  rw [hb] at cx hexb
  rw [hv0] at cm hmd
  rw [ha, hb, hv0]
  have Ha : Hid (sh x = a) := ha
  have Hb : Hid (ex x = b) := hb
  clear ha hb hv0
  go_enter Yba.func15, Yba.ntmps15
  go_upto_block 0 with fail
  go_cut [] (fun wc => Kept3 gm gsh gex w wc ∧ CL wc gm gsh gex L.length nX md (putI sh x (a - (if v0 = 1 then 1 else 0))) (putI ex x (b - (if v0 = 2 then 1 else 0))))
  case first =>
    rcases hmd with rfl | rfl | rfl | rfl
    · go_wp2_with fail
      go_meet
      case rel => exact ⟨Kept3.refl _ _ _ _, hc.congr (putI_self _ _ _ (by rw [Ha.out]; simp)) (putI_self _ _ _ (by rw [Hb.out]; simp))⟩
    · go_wp2_with fail
      go_meet
      case rel => exact ⟨(Kept3.refl _ _ _ _).set ⟨gsh, x, none⟩ (.inr (.inl rfl)) _, (hc.setS x (a - 1)).congr (fun j => by simp) (putI_self _ _ _ (by rw [Hb.out]; simp))⟩
    · go_wp2_with fail
      go_meet
      case rel => exact ⟨(Kept3.refl _ _ _ _).set ⟨gex, x, none⟩ (.inr (.inr rfl)) _, (hc.setX x (b - 1)).congr (putI_self _ _ _ (by rw [Ha.out]; simp)) (fun j => by simp)⟩
    · go_wp2_with fail
      go_meet
      case rel => exact ⟨Kept3.refl _ _ _ _, hc.congr (putI_self _ _ _ (by rw [Ha.out]; simp)) (putI_self _ _ _ (by rw [Hb.out]; simp))⟩
  case rest =>
    obtain ⟨hk1, hc1⟩ := hcut
    have hgm : Bm ≠ gm ∧ Bs ≠ gm ∧ Bx ≠ gm := ⟨bm.ne hc.m (by decide), bs.ne hc.m (by decide), bx.ne hc.m (by decide)⟩
    have bm1 := hk1.blk bm hgm.1 hBm.1 hBm.2.1
    have bs1 := hk1.blk bs hgm.2.1 hBm.2.2.1 hBm.2.2.2.1
    have bx1 := hk1.blk bx hgm.2.2 hBm.2.2.2.2.1 hBm.2.2.2.2.2
    have cbm1 : wc.cell? ⟨Bm, 0, none⟩ = some (.slice (some ⟨gm, 0, none⟩) L.length L.length) := bm1.cellOf (j := 0) rfl
    have cbs1 : wc.cell? ⟨Bs, 0, none⟩ = some (.slice (some ⟨gsh, 0, none⟩) nX nX) := bs1.cellOf (j := 0) rfl
    have cbx1 : wc.cell? ⟨Bx, 0, none⟩ = some (.slice (some ⟨gex, 0, none⟩) nX nX) := bx1.cellOf (j := 0) rfl
    have cs1 := hc1.s.cellOf (rowI_get _ hxX)
    have cx1 := hc1.x.cellOf (rowI_get _ hxX)
    have fs1 := hc1.s.frozen x
    have fx1 := hc1.x.frozen x
    obtain ⟨a1, ha1⟩ : ∃ a1, a1 = a - (if v0 = 1 then 1 else 0) := ⟨_, rfl⟩
    obtain ⟨b1, hb1⟩ : ∃ b1, b1 = b - (if v0 = 2 then 1 else 0) := ⟨_, rfl⟩
    have ha1b : -4097 ≤ a1 ∧ a1 ≤ 4097 := by rw [ha1]; split <;> omega
    have hb1b : -4097 ≤ b1 ∧ b1 ≤ 4097 := by rw [hb1]; split <;> omega
    rw [← ha1, ← hb1] at hc1
    rw [← ha1] at cs1
    rw [← hb1] at cx1
    have Ha1 : Hid (a1 = a - (if v0 = 1 then 1 else 0)) := ha1
    have Hb1 : Hid (b1 = b - (if v0 = 2 then 1 else 0)) := hb1
    have es : putI sh x a1 x = a1 := by simp [putI]
    have ex' : putI ex x b1 x = b1 := by simp [putI]
    rw [es] at cs1
    rw [ex'] at cx1
    have pp : ∀ (f : Nat → Int) (p q : Int), ∀ j, putI (putI f x p) x q j = putI f x q j := fun f p q j => by unfold putI; split <;> rfl
    have Hpp : Hid (∀ (f : Nat → Int) (p q : Int), ∀ j, putI (putI f x p) x q j = putI f x q j) := pp
    have Hbm : Hid (Blk w Bm 59 #[.slice (some ⟨gm, 0, none⟩) L.length L.length]) := bm
    clear ha1 hb1 es ex' cm cbm cbs cbx cs cx fs fx bm bs bx hc hmd pp
    go_upto_block 1 with fail
    go_cut [] (fun wc => Kept3 gm gsh gex w wc ∧ CL wc gm gsh gex L.length nX md (putI sh x (a1 + (if v = 1 then 1 else 0))) (putI ex x (b1 + (if v = 2 then 1 else 0))))
    case first =>
      rcases hv with rfl | rfl | rfl | rfl
      · go_wp2_with fail
        go_meet
        case rel => exact ⟨hk1, hc1.congr (fun j => by simp) (fun j => by simp)⟩
      · go_wp2_with fail
        go_meet
        case rel => exact ⟨hk1.set ⟨gsh, x, none⟩ (.inr (.inl rfl)) _, (hc1.setS x (a1 + 1)).congr (fun j => by rw [Hpp.out]; simp) (fun j => by simp)⟩
      · go_wp2_with fail
        go_meet
        case rel => exact ⟨hk1.set ⟨gex, x, none⟩ (.inr (.inr rfl)) _, (hc1.setX x (b1 + 1)).congr (fun j => by simp) (fun j => by rw [Hpp.out]; simp)⟩
      · go_wp2_with fail
        go_meet
        case rel => exact ⟨hk1, hc1.congr (fun j => by simp) (fun j => by simp)⟩
    case rest =>
      clear cs1 cx1 fs1 fx1 cbs1 cbx1 cbm1 hc1
      obtain ⟨hk2, hc2⟩ := hcut
      have cm2 := hc2.m.cellOf (rowU_get md hk)
      have fm2 := hc2.m.frozen k
      obtain ⟨m2, hm2⟩ : ∃ m2, md k = m2 := ⟨_, rfl⟩
      rw [hm2] at cm2
      clear hm2
      have bm2 := hk2.blk Hbm.out hgm.1 hBm.1 hBm.2.1
      have cbm2 : wc.cell? ⟨Bm, 0, none⟩ = some (.slice (some ⟨gm, 0, none⟩) L.length L.length) := bm2.cellOf (j := 0) rfl
      go_wp2_with fail
      go_end0
      refine ⟨⟨_, rfl⟩, hk2.set ⟨gm, k, none⟩ (.inl rfl) _, ?_⟩
      unfold bump
      rw [← Ha1.out, ← Hb1.out]
      exact hc2.setM k v
end Go.Proofs.Ybulkri.A
