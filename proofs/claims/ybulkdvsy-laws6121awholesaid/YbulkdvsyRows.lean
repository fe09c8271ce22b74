/-
  NARROWER THAN 'FOR EVERY INPUT', by the rows' own cells (each row's printed sentence says how): LawS6121AWhole: loops.
  DERIVED. THE GIVEN ROWS OF THIS SEAT. 1 by the template 'for every input the law returns true; each argument reads behind the call as it read before'; 0 by the template 'total and deterministic' (their statements: YbulkdvsyTotals.lean).
  GIVEN WITH THE SEED: the statements are not yours to turn. If you find one false, say at which input.
  Laid BY PROGRAM, IN A SANDBOX (cutbox-rows.mjs): the forced cells as the released guide's own fill.sh prints them over the translation 5810a8b3f5f1708a… (all of the seat's roots in one cut). By AI agents, Wed Nov 11 2026. No macro, syntax, notation, axiom, sorry.
-/
import Derived.Test.YbulkdvsyChecked
import GoSem.Claim
import GoSem.ClaimJoined
import GoSem.ClaimMapViews
import Derived.JoinedTies
import Derived.KernelRfl
namespace Go.Proofs.Ybulkdvsy
/- THE CELL 'sum', in the pinned program and in every row, IS THE sha256 OF THE DUMP (.gsa) THAT YbulkdvsyProg.lean LOADS. Nothing in Lean hashes anything: it is a label: what it is worth is what the hold of that sum in a sandbox is worth. -/
noncomputable def Yba.pinned : Pinned := { name := "ybulkdvsy", sum := "5810a8b3f5f1708a5a197c35e8f65f469c4807bdfcce2e4ec564acaf88589642", checked := Yba.checked }
namespace Rows
def none {H : Type} : Left H := { results := [], args := [] }

/-- 'quorumforge.LawS6121AWhole': WHATEVER THE INPUT: true; the input reads as it did. -/
def lawS6121AWholeSpec : ChangeSpec := { name := "lawS6121AWhole", fn := fun _ => fun
  | [d] => { results := [.lit (.bool true)], args := [d] }
  | _ => none }
def lawS6121AWholeRow : OpenClaim := { program := "ybulkdvsy", sum := "5810a8b3f5f1708a5a197c35e8f65f469c4807bdfcce2e4ec564acaf88589642", func := "example.com/quorumforge/quorumforge.LawS6121AWhole", spec := "lawS6121AWhole", recurses := true, loops := true, apart := false }
def LawS6121AWholeSaid : Prop := lawS6121AWholeRow.holds Yba.pinned (OpenSpec.ofChange lawS6121AWholeSpec)

/-- ITS FALSE NEIGHBOUR: 'it returns false'. Refute it at one input. -/
def lawS6121AWholeWrong : ChangeSpec := { name := "lawS6121AWhole", fn := fun _ => fun
  | [d] => { results := [.lit (.bool false)], args := [d] }
  | _ => none }
def LawS6121AWholeWrongFalsely : Prop := lawS6121AWholeRow.holds Yba.pinned (OpenSpec.ofChange lawS6121AWholeWrong)

end Rows
end Go.Proofs.Ybulkdvsy
