/-
  No cell of these rows narrows 'for every input' (looked for: loops, veiled, ifaces, maps, wideKeys, modest, calm, conditions, laid).
  DERIVED. THE GIVEN ROWS OF THIS SEAT. 2 by the template 'for every input the law returns true; each argument reads behind the call as it read before'; 0 by the template 'total and deterministic' (their statements: YbulkdvquTotals.lean).
  GIVEN WITH THE SEED: the statements are not yours to turn. If you find one false, say at which input.
  Laid BY PROGRAM, IN A SANDBOX (cutbox-rows.mjs): the forced cells as the released guide's own fill.sh prints them over the translation a5f4d4f412412384… (all of the seat's roots in one cut). By AI agents, Wed Nov 11 2026. No macro, syntax, notation, axiom, sorry.
-/
import Derived.Test.YbulkdvquChecked
import GoSem.Claim
import GoSem.ClaimJoined
import GoSem.ClaimMapViews
import Derived.JoinedTies
import Derived.KernelRfl
namespace Go.Proofs.Ybulkdvqu
/- THE CELL 'sum', in the pinned program and in every row, IS THE sha256 OF THE DUMP (.gsa) THAT YbulkdvquProg.lean LOADS. Nothing in Lean hashes anything: it is a label: what it is worth is what the hold of that sum in a sandbox is worth. -/
noncomputable def Yba.pinned : Pinned := { name := "ybulkdvqu", sum := "a5f4d4f412412384c01a21c3e404c6c93d3a36c91ed3768cbbdc91649b63afd6", checked := Yba.checked }
namespace Rows
def none {H : Type} : Left H := { results := [], args := [] }

/-- 'rackwright.LawS6117BWhole': WHATEVER THE INPUT: true; the input reads as it did. -/
def lawS6117BWholeSpec : ChangeSpec := { name := "lawS6117BWhole", fn := fun _ => fun
  | [d] => { results := [.lit (.bool true)], args := [d] }
  | _ => none }
def lawS6117BWholeRow : OpenClaim := { program := "ybulkdvqu", sum := "a5f4d4f412412384c01a21c3e404c6c93d3a36c91ed3768cbbdc91649b63afd6", func := "example.com/rackwright/rackwright.LawS6117BWhole", spec := "lawS6117BWhole", apart := false }
def LawS6117BWholeSaid : Prop := lawS6117BWholeRow.holds Yba.pinned (OpenSpec.ofChange lawS6117BWholeSpec)

/-- ITS FALSE NEIGHBOUR: 'it returns false'. Refute it at one input. -/
def lawS6117BWholeWrong : ChangeSpec := { name := "lawS6117BWhole", fn := fun _ => fun
  | [d] => { results := [.lit (.bool false)], args := [d] }
  | _ => none }
def LawS6117BWholeWrongFalsely : Prop := lawS6117BWholeRow.holds Yba.pinned (OpenSpec.ofChange lawS6117BWholeWrong)

/-- 'rackwright.LawS6117BFromRack': WHATEVER THE INPUT: true; the input reads as it did. -/
def lawS6117BFromRackSpec : ChangeSpec := { name := "lawS6117BFromRack", fn := fun _ => fun
  | [d] => { results := [.lit (.bool true)], args := [d] }
  | _ => none }
def lawS6117BFromRackRow : OpenClaim := { program := "ybulkdvqu", sum := "a5f4d4f412412384c01a21c3e404c6c93d3a36c91ed3768cbbdc91649b63afd6", func := "example.com/rackwright/rackwright.LawS6117BFromRack", spec := "lawS6117BFromRack", apart := false }
def LawS6117BFromRackSaid : Prop := lawS6117BFromRackRow.holds Yba.pinned (OpenSpec.ofChange lawS6117BFromRackSpec)

/-- ITS FALSE NEIGHBOUR: 'it returns false'. Refute it at one input. -/
def lawS6117BFromRackWrong : ChangeSpec := { name := "lawS6117BFromRack", fn := fun _ => fun
  | [d] => { results := [.lit (.bool false)], args := [d] }
  | _ => none }
def LawS6117BFromRackWrongFalsely : Prop := lawS6117BFromRackRow.holds Yba.pinned (OpenSpec.ofChange lawS6117BFromRackWrong)

end Rows
end Go.Proofs.Ybulkdvqu
