/-
  The clone's shape: what a change of her values leaves standing.
-/
import Derived.Test.YbulktmCols
namespace Go.Proofs.Ybulktm
open Go.RowKit

def OkI (k : IntKind) (v : Value) : Prop := ∃ z, v = .int k z
def OkS (M : Nat) (v : Value) : Prop := ∃ s : ByteArray, v = .string s ∧ s.size ≤ M

/-- a row of its own with cells of one kind -/
def Sh (w : World) (N : Nat) (e : TypeId) (ok : Value → Prop) (ao : Option Addr) (n : Nat) : Prop :=
  0 < n → ∃ g cur, ao = some ⟨g, 0, none⟩ ∧ N ≤ g ∧ Blk w g e cur ∧ n ≤ cur.size ∧ ∀ j, j < n → ∃ v, cur[j]? = some v ∧ ok v

section
variable {w w' : World} {N : Nat} {e : TypeId} {ok ok' : Value → Prop} {ao : Option Addr} {n : Nat}

theorem Blk.same {g : Nat} {e' : TypeId} {c c' : Array Value} (h : Blk w g e c) (h' : Blk w g e' c') : c = c' ∧ e = e' := by
  rw [Blk, h] at h'
  simp only [Option.some.injEq, Obj.cells.injEq] at h'
  exact ⟨h'.1, h'.2.1⟩

theorem Sh.set (h : Sh w N e ok ao n) {g' : Nat} {e' : TypeId} {cur' : Array Value} (hb' : Blk w g' e' cur') {v : Value} (hok : e = e' → ok v) (j : Nat) : Sh (w.setCell ⟨g', j, none⟩ v) N e ok ao n := fun hp => by
  obtain ⟨g, cur, ha, hN, hb, hs, hc⟩ := h hp
  by_cases hg : g = g'
  · subst hg
    obtain ⟨rfl, rfl⟩ := hb.same hb'
    refine ⟨g, _, ha, hN, hb.set j v, by simpa using hs, fun i hi => ?_⟩
    by_cases hij : j = i
    · subst hij
      exact ⟨v, by rw [Array.getElem?_setIfInBounds_self_of_lt (by omega)], hok rfl⟩
    · rw [Array.getElem?_setIfInBounds_ne hij]
      exact hc i hi
  · exact ⟨g, cur, ha, hN, hb.setOther hg v, hs, hc⟩

theorem Sh.weaken (h : Sh w N e ok ao n) (hok : ∀ v, ok v → ok' v) : Sh w N e ok' ao n := fun hp => by
  obtain ⟨g, cur, ha, hN, hb, hs, hc⟩ := h hp
  exact ⟨g, cur, ha, hN, hb, hs, fun j hj => by obtain ⟨v, h1, h2⟩ := hc j hj; exact ⟨v, h1, hok v h2⟩⟩

theorem Sh.drewN (h : Sh w N e ok ao n) (q : Nat) : Sh (w.drewN q) N e ok ao n := fun hp => by
  obtain ⟨g, cur, ha, hN, hb, hs, hc⟩ := h hp
  exact ⟨g, cur, ha, hN, hb.drewN q, hs, hc⟩

theorem Sh.drew (h : Sh w N e ok ao n) : Sh w.drew N e ok ao n := h.drewN 1

theorem OwnSl.shI {cap : Nat} {k : IntKind} {zs : List Int} (h : OwnSl w N e ao n cap (zs.map (Value.int k))) : Sh w N e (OkI k) ao n := fun hp => by
  obtain ⟨g, cur, ha, hN, hb, hs, hc⟩ := h.own hp
  refine ⟨g, cur, ha, hN, hb, hs, fun j hj => ?_⟩
  have hl : zs.length = n := by simpa using h.tl
  exact ⟨.int k (zs[j]'(by omega)), by rw [hc j hj]; simp [List.getElem?_eq_getElem (show j < zs.length by omega)], _, rfl⟩

theorem OwnSl.shS {cap M : Nat} {ss : List ByteArray} (h : OwnSl w N e ao n cap (ss.map Value.string)) (hM : ∀ s ∈ ss, s.size ≤ M) : Sh w N e (OkS M) ao n := fun hp => by
  obtain ⟨g, cur, ha, hN, hb, hs, hc⟩ := h.own hp
  refine ⟨g, cur, ha, hN, hb, hs, fun j hj => ?_⟩
  have hl : ss.length = n := by simpa using h.tl
  exact ⟨.string (ss[j]'(by omega)), by rw [hc j hj]; simp [List.getElem?_eq_getElem (show j < ss.length by omega)], _, rfl, hM _ (List.getElem_mem _)⟩

/-- one cell of it -/
theorem Sh.cell (h : Sh w N e ok ao n) {j : Nat} (hj : j < n) : ∃ g cur v, ao = some ⟨g, 0, none⟩ ∧ N ≤ g ∧ Blk w g e cur ∧ w.cell? ⟨g, j, none⟩ = some v ∧ w.frozen? ⟨g, j, none⟩ = false ∧ ok v := by
  obtain ⟨g, cur, ha, hN, hb, hs, hc⟩ := h (by omega)
  obtain ⟨v, h1, h2⟩ := hc j hj
  exact ⟨g, cur, v, ha, hN, hb, hb.cellOf h1, hb.frozen j, h2⟩
end

/-- the clone's columns -/
structure ColsSh (w : World) (N g L : Nat) (F : Nat → Col) (lt ln ls : Nat → Nat) (M : Nat) : Prop where
  blk : ∃ cur, Blk w g 34 cur ∧ cur.size = L * 4 ∧ ∀ j, j < L → (∃ b, cur[j * 4]? = some (.bool b)) ∧ cur[j * 4 + 1]? = some (.slice (F j).ta (lt j) (F j).tc) ∧ cur[j * 4 + 2]? = some (.slice (F j).na (ln j) (F j).nc) ∧ cur[j * 4 + 3]? = some (.slice (F j).sa (ls j) (F j).sc)
  s8 : ∀ j, j < L → Sh w N 5 (OkI .u8) (F j).ta (lt j)
  s64 : ∀ j, j < L → Sh w N 47 (OkI .u64) (F j).na (ln j)
  ss : ∀ j, j < L → Sh w N 9 (OkS M) (F j).sa (ls j)

section
variable {w : World} {N g L : Nat} {F : Nat → Col} {lt ln ls : Nat → Nat} {M : Nat}

theorem ColsAt.sh {D : Nat → Dat} (h : ColsAt w N g L L F D) (hM : ∀ j, j < L → ∀ s ∈ (D j).sz, s.size ≤ M) : ColsSh w N g L F (fun j => (D j).tz.length) (fun j => (D j).nz.length) (fun j => (D j).sz.length) M :=
  ⟨by obtain ⟨cur, hb, hs, hc⟩ := h.blk
      exact ⟨cur, hb, hs, fun j hj => by obtain ⟨h0, h1, h2, h3⟩ := hc j hj; exact ⟨⟨_, h0⟩, h1, h2, h3⟩⟩,
    fun j hj => (h.own j hj).1.shI, fun j hj => (h.own j hj).2.1.shI, fun j hj => (h.own j hj).2.2.shS (hM j hj)⟩

theorem ColsSh.lt_size (h : ColsSh w N g L F lt ln ls M) : g < w.heap.size := by obtain ⟨cur, hb, _⟩ := h.blk; exact hb.lt

theorem ColsSh.drewN (h : ColsSh w N g L F lt ln ls M) (q : Nat) : ColsSh (w.drewN q) N g L F lt ln ls M :=
  ⟨by obtain ⟨cur, hb, r⟩ := h.blk; exact ⟨cur, hb.drewN q, r⟩, fun j hj => (h.s8 j hj).drewN q, fun j hj => (h.s64 j hj).drewN q, fun j hj => (h.ss j hj).drewN q⟩

theorem ColsSh.raise {M' : Nat} (h : ColsSh w N g L F lt ln ls M) (hM : M ≤ M') : ColsSh w N g L F lt ln ls M' :=
  ⟨h.blk, h.s8, h.s64, fun j hj => (h.ss j hj).weaken fun v hv => by obtain ⟨s, h1, h2⟩ := hv; exact ⟨s, h1, by omega⟩⟩

/-- a store into a row of values, or elsewhere -/
theorem ColsSh.set (h : ColsSh w N g L F lt ln ls M) {g' : Nat} {e' : TypeId} {cur' : Array Value} (hb' : Blk w g' e' cur') {v : Value} (h34 : 34 ≠ e') (h5 : 5 = e' → OkI .u8 v) (h47 : 47 = e' → OkI .u64 v) (h9 : 9 = e' → OkS M v) (j : Nat) : ColsSh (w.setCell ⟨g', j, none⟩ v) N g L F lt ln ls M :=
  ⟨by obtain ⟨cur, hb, r⟩ := h.blk; exact ⟨cur, hb.setOther (hb.ne hb' h34) v, r⟩, fun i hi => (h.s8 i hi).set hb' h5 j, fun i hi => (h.s64 i hi).set hb' h47 j, fun i hi => (h.ss i hi).set hb' h9 j⟩

/-- a store of a column's 'text' -/
theorem ColsSh.setText (h : ColsSh w N g L F lt ln ls M) (k : Nat) (b : Bool) : ColsSh (w.setCell ⟨g, k * 4, none⟩ (.bool b)) N g L F lt ln ls M := by
  obtain ⟨cur, hb, hs, hc⟩ := h.blk
  refine ⟨⟨_, hb.set (k * 4) (.bool b), by simpa using hs, fun j hj => ?_⟩, fun i hi => (h.s8 i hi).set hb (by intro h; cases h) _, fun i hi => (h.s64 i hi).set hb (by intro h; cases h) _, fun i hi => (h.ss i hi).set hb (by intro h; cases h) _⟩
  obtain ⟨h0, h1, h2, h3⟩ := hc j hj
  refine ⟨?_, ?_, ?_, ?_⟩
  · by_cases e : k * 4 = j * 4
    · exact ⟨b, by rw [e, Array.getElem?_setIfInBounds_self_of_lt (by omega)]⟩
    · rw [Array.getElem?_setIfInBounds_ne e]; exact h0
  · rw [Array.getElem?_setIfInBounds_ne (by omega)]; exact h1
  · rw [Array.getElem?_setIfInBounds_ne (by omega)]; exact h2
  · rw [Array.getElem?_setIfInBounds_ne (by omega)]; exact h3

theorem ColsSh.cells (h : ColsSh w N g L F lt ln ls M) {j : Nat} (hj : j < L) : (∃ b, w.cell? ⟨g, j * 4, none⟩ = some (.bool b)) ∧ w.frozen? ⟨g, j * 4, none⟩ = false ∧ w.cell? ⟨g, j * 4 + 1, none⟩ = some (.slice (F j).ta (lt j) (F j).tc) ∧
    w.cell? ⟨g, j * 4 + 2, none⟩ = some (.slice (F j).na (ln j) (F j).nc) ∧ w.cell? ⟨g, j * 4 + 3, none⟩ = some (.slice (F j).sa (ls j) (F j).sc) := by
  obtain ⟨cur, hb, _, hc⟩ := h.blk
  obtain ⟨⟨b, h0⟩, h1, h2, h3⟩ := hc j hj
  exact ⟨⟨b, hb.cellOf h0⟩, hb.frozen _, hb.cellOf h1, hb.cellOf h2, hb.cellOf h3⟩
end

/-- the clone's key index -/
def KeySh (w : World) (N : Nat) (kp : Option Addr) (kn : Nat) : Prop :=
  ∃ K q a c cnt, kp = some ⟨K, 0, none⟩ ∧ N ≤ K ∧ Blk w K 51 #[.slice (some ⟨q, 0, none⟩) 1 1, .slice a kn c, .int .i64 cnt, .int .u64 0] ∧ Sh w N 58 (OkI .u32) a kn

section
variable {w : World} {N : Nat} {kp : Option Addr} {kn : Nat}
theorem KeySh.drewN (h : KeySh w N kp kn) (m : Nat) : KeySh (w.drewN m) N kp kn := by
  obtain ⟨K, q, a, c, cnt, e, hN, hb, hs⟩ := h
  exact ⟨K, q, a, c, cnt, e, hN, hb.drewN m, hs.drewN m⟩
theorem KeySh.set (h : KeySh w N kp kn) {g' : Nat} {e' : TypeId} {cur' : Array Value} (hb' : Blk w g' e' cur') {v : Value} (h51 : 51 ≠ e') (h58 : 58 = e' → OkI .u32 v) (j : Nat) : KeySh (w.setCell ⟨g', j, none⟩ v) N kp kn := by
  obtain ⟨K, q, a, c, cnt, e, hN, hb, hs⟩ := h
  exact ⟨K, q, a, c, cnt, e, hN, hb.setOther (hb.ne hb' h51) v, hs.set hb' h58 j⟩
end

/-- the state while the clone is changed -/
structure MSt (w2 w : World) (T : Nat) (tb : Array Value) (g L : Nat) (F : Nat → Col) (lt ln ls : Nat → Nat) (M : Nat) (hasKeys : Bool) (kp : Option Addr) (kn : Nat) : Prop where
  tab : Blk w T 46 tb
  cols : ColsSh w w2.heap.size g L F lt ln ls M
  key : hasKeys = true → KeySh w w2.heap.size kp kn
  low : Below w2.heap.size w2 w

section
variable {w2 w : World} {T : Nat} {tb : Array Value} {g L : Nat} {F : Nat → Col} {lt ln ls : Nat → Nat} {M : Nat} {hasKeys : Bool} {kp : Option Addr} {kn : Nat}
theorem MSt.drewN (h : MSt w2 w T tb g L F lt ln ls M hasKeys kp kn) (q : Nat) : MSt w2 (w.drewN q) T tb g L F lt ln ls M hasKeys kp kn :=
  ⟨h.tab.drewN q, h.cols.drewN q, fun e => (h.key e).drewN q, below_drewN h.low q⟩
theorem MSt.drew (h : MSt w2 w T tb g L F lt ln ls M hasKeys kp kn) : MSt w2 w.drew T tb g L F lt ln ls M hasKeys kp kn := h.drewN 1
theorem MSt.raise {M' : Nat} (h : MSt w2 w T tb g L F lt ln ls M hasKeys kp kn) (hM : M ≤ M') : MSt w2 w T tb g L F lt ln ls M' hasKeys kp kn :=
  ⟨h.tab, h.cols.raise hM, h.key, h.low⟩
theorem MSt.text (h : MSt w2 w T tb g L F lt ln ls M hasKeys kp kn) (hg : w2.heap.size ≤ g) (k : Nat) (b : Bool) : MSt w2 (w.setCell ⟨g, k * 4, none⟩ (.bool b)) T tb g L F lt ln ls M hasKeys kp kn := by
  obtain ⟨cur, hb, _⟩ := h.cols.blk
  exact ⟨h.tab.setOther (h.tab.ne hb (by decide)) _, h.cols.setText k b, fun e => (h.key e).set hb (by decide) (by intro h; cases h) _, h.low.setCell (p := ⟨g, k * 4, none⟩) hg _⟩
theorem MSt.store (h : MSt w2 w T tb g L F lt ln ls M hasKeys kp kn) {gb : Nat} {e : TypeId} {cur : Array Value} (hb : Blk w gb e cur) (hN : w2.heap.size ≤ gb) {v : Value} (h46 : 46 ≠ e) (h34 : 34 ≠ e) (h51 : 51 ≠ e) (h58 : 58 ≠ e) (h5 : 5 = e → OkI .u8 v) (h47 : 47 = e → OkI .u64 v) (h9 : 9 = e → OkS M v) (j : Nat) :
    MSt w2 (w.setCell ⟨gb, j, none⟩ v) T tb g L F lt ln ls M hasKeys kp kn :=
  ⟨h.tab.setOther (h.tab.ne hb h46) _, h.cols.set hb h34 h5 h47 h9 j, fun q => (h.key q).set hb h51 (fun q => absurd q h58) _, h.low.setCell (p := ⟨gb, j, none⟩) hN _⟩
end

end Go.Proofs.Ybulktm
