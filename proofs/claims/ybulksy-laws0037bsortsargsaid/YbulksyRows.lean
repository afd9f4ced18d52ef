/-
  No cell of these rows narrows 'for every input' (looked for: loops, veiled, ifaces, maps, wideKeys, modest, calm, conditions, laid).
  DERIVED. THE GIVEN ROWS OF THIS SEAT. 2 by the template 'for every input the law returns true; each argument reads behind the call as it read before'; 0 by the template 'total and deterministic' (their statements: YbulksyTotals.lean).
  GIVEN WITH THE SEED: the statements are not yours to turn. If you find one false, say at which input.
  Laid BY PROGRAM, IN A SANDBOX (cutbox-rows.mjs): the forced cells as the released guide's own fill.sh prints them over the translation 570fecd16b9bf729… (all of the seat's roots in one cut). By AI agents, Wed Nov 11 2026. No macro, syntax, notation, axiom, sorry.
-/
import Derived.Test.YbulksyChecked
import GoSem.Claim
import GoSem.ClaimJoined
import GoSem.ClaimMapViews
import Derived.JoinedTies
import Derived.KernelRfl
namespace Go.Proofs.Ybulksy
/- THE CELL 'sum', in the pinned program and in every row, IS THE sha256 OF THE DUMP (.gsa) THAT YbulksyProg.lean LOADS. Nothing in Lean hashes anything: it is a label: what it is worth is what the hold of that sum in a sandbox is worth. -/
noncomputable def Yba.pinned : Pinned := { name := "ybulksy", sum := "570fecd16b9bf729d27b23f923ab63115529545748e2c42c9506905819d7b668", checked := Yba.checked }
namespace Rows
def none {H : Type} : Left H := { results := [], args := [] }

/-- 'ca.LawS0037BOrderStat': WHATEVER THE INPUT: true; the input reads as it did. -/
def lawS0037BOrderStatSpec : ChangeSpec := { name := "lawS0037BOrderStat", fn := fun _ => fun
  | [d1, d2] => { results := [.lit (.bool true)], args := [d1, d2] }
  | _ => none }
def lawS0037BOrderStatRow : OpenClaim := { program := "ybulksy", sum := "570fecd16b9bf729d27b23f923ab63115529545748e2c42c9506905819d7b668", func := "example.com/certwright/certwright/internal/ca.LawS0037BOrderStat", spec := "lawS0037BOrderStat", recurses := true, apart := false }
def LawS0037BOrderStatSaid : Prop := lawS0037BOrderStatRow.holds Yba.pinned (OpenSpec.ofChange lawS0037BOrderStatSpec)

/-- ITS FALSE NEIGHBOUR: 'it returns false'. Refute it at one input. -/
def lawS0037BOrderStatWrong : ChangeSpec := { name := "lawS0037BOrderStat", fn := fun _ => fun
  | [d1, d2] => { results := [.lit (.bool false)], args := [d1, d2] }
  | _ => none }
def LawS0037BOrderStatWrongFalsely : Prop := lawS0037BOrderStatRow.holds Yba.pinned (OpenSpec.ofChange lawS0037BOrderStatWrong)

/-- 'ca.LawS0037BSortsArg': WHATEVER THE INPUT: true; the input reads as it did. -/
def lawS0037BSortsArgSpec : ChangeSpec := { name := "lawS0037BSortsArg", fn := fun _ => fun
  | [d1, d2] => { results := [.lit (.bool true)], args := [d1, d2] }
  | _ => none }
def lawS0037BSortsArgRow : OpenClaim := { program := "ybulksy", sum := "570fecd16b9bf729d27b23f923ab63115529545748e2c42c9506905819d7b668", func := "example.com/certwright/certwright/internal/ca.LawS0037BSortsArg", spec := "lawS0037BSortsArg", recurses := true, apart := false }
def LawS0037BSortsArgSaid : Prop := lawS0037BSortsArgRow.holds Yba.pinned (OpenSpec.ofChange lawS0037BSortsArgSpec)

/-- ITS FALSE NEIGHBOUR: 'it returns false'. Refute it at one input. -/
def lawS0037BSortsArgWrong : ChangeSpec := { name := "lawS0037BSortsArg", fn := fun _ => fun
  | [d1, d2] => { results := [.lit (.bool false)], args := [d1, d2] }
  | _ => none }
def LawS0037BSortsArgWrongFalsely : Prop := lawS0037BSortsArgRow.holds Yba.pinned (OpenSpec.ofChange lawS0037BSortsArgWrong)

end Rows
end Go.Proofs.Ybulksy
