/-
  A region that draws its order, in the round of a range over a function: by the laws of a plain frame.
-/
import Derived.RangeFuncCalls
import Derived.RangeFuncLeaves
import Derived.Deep.RegionHeld3
import Derived.OrdersIn
import Derived.TacticsIn
namespace Go.Proofs.Ybulkri
open Go Go.RowKit

def noDefer (o : Oper) : Bool := match o.op with | .defer _ => false | _ => true

theorem noDefer_spec {o : Oper} (h : noDefer o = true) : ∀ c, o.op ≠ .defer c := by
  intro c hc
  simp [noDefer, hc] at h

theorem oper_in_round {l n : Nat} {P : Program} {o : Oper} {a : Act} {w : World} {K : Act → World → Prop} {Q : Exit → Act → World → Prop} (hd : noDefer o = true) (h : o.wp P a w K Q) : o.wpIn (Fence.wide.inRound l) n P a w K Q := by
  refine ⟨fun _ _ => trivial, ?_⟩
  have e : Oper.semAt (Fence.wide.inRound l).round a.eval o = execOp a.eval o := Oper.semAt_some l a.eval o (noDefer_spec hd)
  rw [e]
  unfold Oper.wp at h
  generalize (execOp a.eval o).run P w = r at *
  cases r with
  | ok nx w' =>
    cases nx with
    | value v => exact h
    | skip => exact h
    | defer d => exact h
    | enter f args => exact ⟨fun hh => by simp [Fence.wide] at hh, CallsIn.inRound l (callsIn_wide.2 h)⟩
    | row r args => exact ⟨fun hh => by simp [Fence.wide] at hh, fun c cs _ => let ⟨v, w', q, s⟩ := h c cs; ⟨v, w', q, stepsIn_wide.2 s⟩⟩
    | _ => exact h.elim
  | halt hl w' =>
    cases hl with
    | panic v => exact h
    | _ => exact h.elim

theorem op_in_round {l n : Nat} {P : Program} {ops : Array Oper} {i : Nat} {a : Act} {w : World} {K : Act → World → Prop} {Q : Exit → Act → World → Prop} (hd : ops.all noDefer = true) (hQ : ¬ LetsOut Q) (h : wpOp P ops Q i K a w) : wpOpIn (Fence.wide.inRound l) n P ops Q i K a w := by
  unfold wpOp at h
  unfold wpOpIn
  cases ho : ops[i]? with
  | none => rw [ho] at h; exact h
  | some o =>
    rw [ho] at h
    have hdo : noDefer o = true := by
      obtain ⟨hi, he⟩ := Array.getElem?_eq_some_iff.1 ho
      rw [Array.all_eq_true] at hd
      exact he ▸ hd i hi
    dsimp only at h ⊢
    split
    · rename_i hw
      rw [if_pos hw] at h
      rcases h with h | ⟨_, h⟩
      · exact oper_in_round hdo h
      · exact absurd h hQ
    · rename_i hw
      rw [if_neg hw] at h
      exact ⟨fun _ _ => trivial, h⟩

theorem any_in_round {l n : Nat} {P : Program} {md : Region.Mode} {ops : Array Oper} {Q : Exit → Act → World → Prop} (hd : ops.all noDefer = true) (hQ : ¬ LetsOut Q) : ∀ (fuel : Nat) (listed : Array Bool) (a : Act) (w : World), wpAny P md ops Q fuel listed a w → wpAnyIn (Fence.wide.inRound l) n P md ops Q fuel listed a w
  | 0, _, _, _, h => h
  | fuel + 1, _, _, _, h => ⟨h.1, fun i hi => op_in_round hd hQ (wpOp_mono (fun a' w' h' => any_in_round hd hQ fuel _ a' w' h') (h.2 i hi))⟩

/-- the region, in the round -/
theorem region_in_round {l n id : Nat} {P : Program} {ops : Array Oper} {Q : Exit → Act → World → Prop} {S : World → Prop} {a : Act} {w : World} (hm : P.follows .mixedOrders = true) (hd : ops.all noDefer = true) (hQ : ¬ LetsOut Q) (hS : S w.drew)
    (h : S w.drew → wpAnyH P .any ops Q S ops.size (Array.replicate ops.size false) a w.drew) : (Code.region id ops true).wpIn (Fence.wide.inRound l) n P Q a w :=
  wpIn_region_any hm (any_in_round hd hQ _ _ _ _ (wpAny_of_held _ _ _ _ (h hS)))
end Go.Proofs.Ybulkri
