/-
  No cell of these rows narrows 'for every input' (looked for: loops, veiled, ifaces, maps, wideKeys, modest, calm, conditions, laid).
  DERIVED. THE GIVEN ROWS OF THIS SEAT. 2 by the template 'for every input the law returns true; each argument reads behind the call as it read before'; 0 by the template 'total and deterministic' (their statements: YbulkskTotals.lean).
  GIVEN WITH THE SEED: the statements are not yours to turn. If you find one false, say at which input.
  Laid BY PROGRAM, IN A SANDBOX (cutbox-rows.mjs): the forced cells as the released guide's own fill.sh prints them over the translation ec36de3cb518080e… (all of the seat's roots in one cut). By AI agents, Wed Nov 11 2026. No macro, syntax, notation, axiom, sorry.
-/
import Derived.Test.YbulkskChecked
import GoSem.Claim
import GoSem.ClaimJoined
import GoSem.ClaimMapViews
import Derived.JoinedTies
import Derived.KernelRfl
namespace Go.Proofs.Ybulksk
/- THE CELL 'sum', in the pinned program and in every row, IS THE sha256 OF THE DUMP (.gsa) THAT YbulkskProg.lean LOADS. Nothing in Lean hashes anything: it is a label: what it is worth is what the hold of that sum in a sandbox is worth. -/
noncomputable def Yba.pinned : Pinned := { name := "ybulksk", sum := "ec36de3cb518080ef59bfebd378afd554d83933d8d641ab48248500c4e298693", checked := Yba.checked }
namespace Rows
def none {H : Type} : Left H := { results := [], args := [] }

/-- 'snmp.LawS0036ARoundTrip': WHATEVER THE INPUT: true; the input reads as it did. -/
def lawS0036ARoundTripSpec : ChangeSpec := { name := "lawS0036ARoundTrip", fn := fun _ => fun
  | [d1, d2, d3, d4] => { results := [.lit (.bool true)], args := [d1, d2, d3, d4] }
  | _ => none }
def lawS0036ARoundTripRow : OpenClaim := { program := "ybulksk", sum := "ec36de3cb518080ef59bfebd378afd554d83933d8d641ab48248500c4e298693", func := "example.com/wavekeeper/wavekeeper/internal/snmp.LawS0036ARoundTrip", spec := "lawS0036ARoundTrip", apart := false }
def LawS0036ARoundTripSaid : Prop := lawS0036ARoundTripRow.holds Yba.pinned (OpenSpec.ofChange lawS0036ARoundTripSpec)

/-- ITS FALSE NEIGHBOUR: 'it returns false'. Refute it at one input. -/
def lawS0036ARoundTripWrong : ChangeSpec := { name := "lawS0036ARoundTrip", fn := fun _ => fun
  | [d1, d2, d3, d4] => { results := [.lit (.bool false)], args := [d1, d2, d3, d4] }
  | _ => none }
def LawS0036ARoundTripWrongFalsely : Prop := lawS0036ARoundTripRow.holds Yba.pinned (OpenSpec.ofChange lawS0036ARoundTripWrong)

/-- 'snmp.LawS0036AEdges': WHATEVER THE INPUT: true; the input reads as it did. -/
def lawS0036AEdgesSpec : ChangeSpec := { name := "lawS0036AEdges", fn := fun _ => fun
  | [d1, d2, d3] => { results := [.lit (.bool true)], args := [d1, d2, d3] }
  | _ => none }
def lawS0036AEdgesRow : OpenClaim := { program := "ybulksk", sum := "ec36de3cb518080ef59bfebd378afd554d83933d8d641ab48248500c4e298693", func := "example.com/wavekeeper/wavekeeper/internal/snmp.LawS0036AEdges", spec := "lawS0036AEdges", apart := false }
def LawS0036AEdgesSaid : Prop := lawS0036AEdgesRow.holds Yba.pinned (OpenSpec.ofChange lawS0036AEdgesSpec)

/-- ITS FALSE NEIGHBOUR: 'it returns false'. Refute it at one input. -/
def lawS0036AEdgesWrong : ChangeSpec := { name := "lawS0036AEdges", fn := fun _ => fun
  | [d1, d2, d3] => { results := [.lit (.bool false)], args := [d1, d2, d3] }
  | _ => none }
def LawS0036AEdgesWrongFalsely : Prop := lawS0036AEdgesRow.holds Yba.pinned (OpenSpec.ofChange lawS0036AEdgesWrong)

end Rows
end Go.Proofs.Ybulksk
