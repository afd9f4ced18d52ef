/-
  The tail that is appended, and how it is found again.
-/
import Derived.Test.YbulkskEnc
import Derived.ChangeShapes
namespace Go.Proofs.Ybulksk
open Go.RowKit

/-- what is known of the tail -/
structure TailAt (w : World) (ao : Option Addr) (len cap : Nat) (ts : List Int) : Prop where
  tl : ts.length = len
  short : len ≤ 1024
  nil : ao = none → cap = 0
  cells : 0 < len → ∃ b off, ao = some ⟨b, off, none⟩ ∧ b < w.heap.size ∧ ∀ j, j < len → w.cell? ⟨b, off + j, none⟩ = some (.int .u8 (ts.getD j 0))

theorem TailAt.later {w W : World} {ao : Option Addr} {len cap : Nat} {ts : List Int} (h : TailAt w ao len cap ts) (hb : Below w.heap.size w W) :
    0 < len → ∃ b off, ao = some ⟨b, off, none⟩ ∧ ∀ j, j < len → W.cell? ⟨b, off + j, none⟩ = some (.int .u8 (ts.getD j 0)) := by
  intro hp
  obtain ⟨b, off, e, hlt, hc⟩ := h.cells hp
  exact ⟨b, off, e, fun j hj => (hb.cell (p := ⟨b, off + j, none⟩) hlt).trans (hc j hj)⟩

/-- the tail, as it stands behind what was read -/
theorem enc_tail {w0 w : World} {g cap : Nat} {pre ts : List Int} (h : EncAt w0 w g cap (pre ++ ts)) {n : Nat} (hn : n = pre.length) :
    0 < ts.length → ∃ b off, (some ⟨g, n, none⟩ : Option Addr) = some ⟨b, off, none⟩ ∧ ∀ j, j < ts.length → w.cell? ⟨b, off + j, none⟩ = some (.int .u8 (ts.getD j 0)) := by
  intro _
  refine ⟨g, n, rfl, fun j hj => ?_⟩
  rw [h.cell (by simp; omega), hn]
  simp [List.getElem?_append_right]

theorem enc_all {w0 w : World} {g cap L : Nat} {bs : List Int} (h : EncAt w0 w g cap bs) (hL : bs.length = L) :
    0 < L → ∃ b off, (some ⟨g, 0, none⟩ : Option Addr) = some ⟨b, off, none⟩ ∧ ∀ j, j < L → w.cell? ⟨b, off + j, none⟩ = some (.int .u8 (bs.getD j 0)) := by
  intro _
  exact ⟨g, 0, rfl, fun j hj => by rw [Nat.zero_add]; exact h.cell (by omega)⟩

/-- the tail, out of what is read of it -/
theorem tail_of {w : World} {a : Option Addr} {len cap : Nat} {zs : List Int} (hs : len ≤ 1024)
    (h : (a = none ∧ len = 0 ∧ cap = 0 ∧ zs = []) ∨
      ∃ x, a = some x ∧ len ≤ cap ∧ cap ≤ maxLen ∧ zs.length = cap ∧ (∀ i, i < zs.length → w.cell? (x.add i) = some (.int .u8 (zs.getD i 0))) ∧ ∀ n ∈ zs, (Lit.int .u8 n).wf = true) :
    TailAt w a len cap (zs.take len) := by
  rcases h with ⟨rfl, rfl, rfl, rfl⟩ | ⟨x, rfl, hlc, hcm, hzl, hc, _⟩
  · exact ⟨rfl, hs, fun _ => rfl, fun h => absurd h (Nat.lt_irrefl _)⟩
  · refine ⟨by simp; omega, hs, fun e => (by cases e), fun hp => ?_⟩
    obtain ⟨b, off, spot⟩ := x
    have h0 := hc 0 (by omega)
    have hspot : spot = none := by simpa [Addr.add] using World.cell?_spot h0
    subst hspot
    refine ⟨b, off, rfl, ?_, fun j hj => ?_⟩
    · exact World.block_lt_of_cell? w _ (by simpa [Addr.add] using h0)
    · have := hc j (by omega)
      rw [Go.WideShapes.add_plain] at this
      rw [this]
      simp [List.getElem?_take_of_lt hj]
end Go.Proofs.Ybulksk
