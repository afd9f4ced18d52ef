/-
  No cell of these rows narrows 'for every input' (looked for: loops, veiled, ifaces, maps, wideKeys, modest, calm, conditions, laid).
  DERIVED. THE GIVEN ROWS OF THIS SEAT. 3 by the template 'for every input the law returns true; each argument reads behind the call as it read before'; 0 by the template 'total and deterministic' (their statements: YbulkriTotals.lean).
  GIVEN WITH THE SEED: the statements are not yours to turn. If you find one false, say at which input.
  Laid BY PROGRAM, IN A SANDBOX (cutbox-rows.mjs): the forced cells as the released guide's own fill.sh prints them over the translation 8ed06b3d260c2ae3… (all of the seat's roots in one cut). By AI agents, Wed Nov 11 2026. No macro, syntax, notation, axiom, sorry.
-/
import Derived.Test.YbulkriChecked
import GoSem.Claim
import GoSem.ClaimJoined
import GoSem.ClaimMapViews
import Derived.JoinedTies
import Derived.KernelRfl
namespace Go.Proofs.Ybulkri
/- THE CELL 'sum', in the pinned program and in every row, IS THE sha256 OF THE DUMP (.gsa) THAT YbulkriProg.lean LOADS. Nothing in Lean hashes anything: it is a label: what it is worth is what the hold of that sum in a sandbox is worth. -/
noncomputable def Yba.pinned : Pinned := { name := "ybulkri", sum := "8ed06b3d260c2ae3a1efbe9ff983bcc33eb7eecfda9ba075a6d250387bcbb152", checked := Yba.checked }
namespace Rows
def none {H : Type} : Left H := { results := [], args := [] }

/-- 'interleave.LawS0034AModel': WHATEVER THE INPUT: true; the input reads as it did. -/
def lawS0034AModelSpec : ChangeSpec := { name := "lawS0034AModel", fn := fun _ => fun
  | [d] => { results := [.lit (.bool true)], args := [d] }
  | _ => none }
def lawS0034AModelRow : OpenClaim := { program := "ybulkri", sum := "8ed06b3d260c2ae3a1efbe9ff983bcc33eb7eecfda9ba075a6d250387bcbb152", func := "example.com/interleave/interleave.LawS0034AModel", spec := "lawS0034AModel", unfollowed := true, recurses := true, apart := false }
def LawS0034AModelSaid : Prop := lawS0034AModelRow.holds Yba.pinned (OpenSpec.ofChange lawS0034AModelSpec)

/-- ITS FALSE NEIGHBOUR: 'it returns false'. Refute it at one input. -/
def lawS0034AModelWrong : ChangeSpec := { name := "lawS0034AModel", fn := fun _ => fun
  | [d] => { results := [.lit (.bool false)], args := [d] }
  | _ => none }
def LawS0034AModelWrongFalsely : Prop := lawS0034AModelRow.holds Yba.pinned (OpenSpec.ofChange lawS0034AModelWrong)

/-- 'interleave.LawS0034BExact': WHATEVER THE INPUT: true; the input reads as it did. -/
def lawS0034BExactSpec : ChangeSpec := { name := "lawS0034BExact", fn := fun _ => fun
  | [d] => { results := [.lit (.bool true)], args := [d] }
  | _ => none }
def lawS0034BExactRow : OpenClaim := { program := "ybulkri", sum := "8ed06b3d260c2ae3a1efbe9ff983bcc33eb7eecfda9ba075a6d250387bcbb152", func := "example.com/interleave/interleave.LawS0034BExact", spec := "lawS0034BExact", recurses := true, apart := false }
def LawS0034BExactSaid : Prop := lawS0034BExactRow.holds Yba.pinned (OpenSpec.ofChange lawS0034BExactSpec)

/-- ITS FALSE NEIGHBOUR: 'it returns false'. Refute it at one input. -/
def lawS0034BExactWrong : ChangeSpec := { name := "lawS0034BExact", fn := fun _ => fun
  | [d] => { results := [.lit (.bool false)], args := [d] }
  | _ => none }
def LawS0034BExactWrongFalsely : Prop := lawS0034BExactRow.holds Yba.pinned (OpenSpec.ofChange lawS0034BExactWrong)

/-- 'interleave.LawS0034BSubset': WHATEVER THE INPUT: true; the input reads as it did. -/
def lawS0034BSubsetSpec : ChangeSpec := { name := "lawS0034BSubset", fn := fun _ => fun
  | [d] => { results := [.lit (.bool true)], args := [d] }
  | _ => none }
def lawS0034BSubsetRow : OpenClaim := { program := "ybulkri", sum := "8ed06b3d260c2ae3a1efbe9ff983bcc33eb7eecfda9ba075a6d250387bcbb152", func := "example.com/interleave/interleave.LawS0034BSubset", spec := "lawS0034BSubset", recurses := true, apart := false }
def LawS0034BSubsetSaid : Prop := lawS0034BSubsetRow.holds Yba.pinned (OpenSpec.ofChange lawS0034BSubsetSpec)

/-- ITS FALSE NEIGHBOUR: 'it returns false'. Refute it at one input. -/
def lawS0034BSubsetWrong : ChangeSpec := { name := "lawS0034BSubset", fn := fun _ => fun
  | [d] => { results := [.lit (.bool false)], args := [d] }
  | _ => none }
def LawS0034BSubsetWrongFalsely : Prop := lawS0034BSubsetRow.holds Yba.pinned (OpenSpec.ofChange lawS0034BSubsetWrong)

end Rows
end Go.Proofs.Ybulkri
