/-
  No cell of these rows narrows 'for every input' (looked for: loops, veiled, ifaces, maps, wideKeys, modest, calm, conditions, laid).
  DERIVED. THE GIVEN ROWS OF THIS SEAT. 1 by the template 'for every input the law returns true; each argument reads behind the call as it read before'; 0 by the template 'total and deterministic' (their statements: YbulkdvpsTotals.lean).
  GIVEN WITH THE SEED: the statements are not yours to turn. If you find one false, say at which input.
  Laid BY PROGRAM, IN A SANDBOX (cutbox-rows.mjs): the forced cells as the released guide's own fill.sh prints them over the translation 50bbcb94ca1446f9… (all of the seat's roots in one cut). By AI agents, Wed Nov 11 2026. No macro, syntax, notation, axiom, sorry.
-/
import Derived.Test.YbulkdvpsChecked
import GoSem.Claim
import GoSem.ClaimJoined
import GoSem.ClaimMapViews
import Derived.JoinedTies
import Derived.KernelRfl
namespace Go.Proofs.Ybulkdvps
/- THE CELL 'sum', in the pinned program and in every row, IS THE sha256 OF THE DUMP (.gsa) THAT YbulkdvpsProg.lean LOADS. Nothing in Lean hashes anything: it is a label: what it is worth is what the hold of that sum in a sandbox is worth. -/
noncomputable def Yba.pinned : Pinned := { name := "ybulkdvps", sum := "50bbcb94ca1446f9d80abeeefdc7d9b295d1586a46ea5903923c7fad3f4bb39e", checked := Yba.checked }
namespace Rows
def none {H : Type} : Left H := { results := [], args := [] }

/-- 'hyperweft.LawS6115BWhole': WHATEVER THE INPUT: true; the input reads as it did. -/
def lawS6115BWholeSpec : ChangeSpec := { name := "lawS6115BWhole", fn := fun _ => fun
  | [d1, d2, d3, d4, d5] => { results := [.lit (.bool true)], args := [d1, d2, d3, d4, d5] }
  | _ => none }
def lawS6115BWholeRow : OpenClaim := { program := "ybulkdvps", sum := "50bbcb94ca1446f9d80abeeefdc7d9b295d1586a46ea5903923c7fad3f4bb39e", func := "example.com/hyperweft/hyperweft.LawS6115BWhole", spec := "lawS6115BWhole", apart := false }
def LawS6115BWholeSaid : Prop := lawS6115BWholeRow.holds Yba.pinned (OpenSpec.ofChange lawS6115BWholeSpec)

/-- ITS FALSE NEIGHBOUR: 'it returns false'. Refute it at one input. -/
def lawS6115BWholeWrong : ChangeSpec := { name := "lawS6115BWhole", fn := fun _ => fun
  | [d1, d2, d3, d4, d5] => { results := [.lit (.bool false)], args := [d1, d2, d3, d4, d5] }
  | _ => none }
def LawS6115BWholeWrongFalsely : Prop := lawS6115BWholeRow.holds Yba.pinned (OpenSpec.ofChange lawS6115BWholeWrong)

end Rows
end Go.Proofs.Ybulkdvps
