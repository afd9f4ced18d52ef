/-
  No cell of these rows narrows 'for every input' (looked for: loops, veiled, ifaces, maps, wideKeys, modest, calm, conditions, laid).
  DERIVED. THE GIVEN ROWS OF THIS SEAT. 1 by the template 'for every input the law returns true; each argument reads behind the call as it read before'; 0 by the template 'total and deterministic' (their statements: YbulktmTotals.lean).
  GIVEN WITH THE SEED: the statements are not yours to turn. If you find one false, say at which input.
  Laid BY PROGRAM, IN A SANDBOX (cutbox-rows.mjs): the forced cells as the released guide's own fill.sh prints them over the translation babe8a8d3f190630… (all of the seat's roots in one cut). By AI agents, Wed Nov 11 2026. No macro, syntax, notation, axiom, sorry.
-/
import Derived.Test.YbulktmChecked
import GoSem.Claim
import GoSem.ClaimJoined
import GoSem.ClaimMapViews
import Derived.JoinedTies
import Derived.KernelRfl
namespace Go.Proofs.Ybulktm
/- THE CELL 'sum', in the pinned program and in every row, IS THE sha256 OF THE DUMP (.gsa) THAT YbulktmProg.lean LOADS. Nothing in Lean hashes anything: it is a label: what it is worth is what the hold of that sum in a sandbox is worth. -/
noncomputable def Yba.pinned : Pinned := { name := "ybulktm", sum := "babe8a8d3f190630d79669cde9031203f51b7f6af786efffafaa5bd901a44057", checked := Yba.checked }
namespace Rows
def none {H : Type} : Left H := { results := [], args := [] }

/-- 'rowclock.LawS0038ACopyOwn': WHATEVER THE INPUT: true; the input reads as it did. -/
def lawS0038ACopyOwnSpec : ChangeSpec := { name := "lawS0038ACopyOwn", fn := fun _ => fun
  | [d1, d2, d3, d4, d5, d6, d7, d8, d9, d10, d11] => { results := [.lit (.bool true)], args := [d1, d2, d3, d4, d5, d6, d7, d8, d9, d10, d11] }
  | _ => none }
def lawS0038ACopyOwnRow : OpenClaim := { program := "ybulktm", sum := "babe8a8d3f190630d79669cde9031203f51b7f6af786efffafaa5bd901a44057", func := "example.com/rowclock/rowclock.LawS0038ACopyOwn", spec := "lawS0038ACopyOwn", apart := false }
def LawS0038ACopyOwnSaid : Prop := lawS0038ACopyOwnRow.holds Yba.pinned (OpenSpec.ofChange lawS0038ACopyOwnSpec)

/-- ITS FALSE NEIGHBOUR: 'it returns false'. Refute it at one input. -/
def lawS0038ACopyOwnWrong : ChangeSpec := { name := "lawS0038ACopyOwn", fn := fun _ => fun
  | [d1, d2, d3, d4, d5, d6, d7, d8, d9, d10, d11] => { results := [.lit (.bool false)], args := [d1, d2, d3, d4, d5, d6, d7, d8, d9, d10, d11] }
  | _ => none }
def LawS0038ACopyOwnWrongFalsely : Prop := lawS0038ACopyOwnRow.holds Yba.pinned (OpenSpec.ofChange lawS0038ACopyOwnWrong)

end Rows
end Go.Proofs.Ybulktm
