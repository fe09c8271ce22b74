/-
  No cell of these rows narrows 'for every input' (looked for: loops, veiled, ifaces, maps, wideKeys, modest, calm, conditions, laid).
  DERIVED. THE GIVEN ROWS OF THIS SEAT. 1 by the template 'for every input the law returns true; each argument reads behind the call as it read before'; 0 by the template 'total and deterministic' (their statements: YbulkdvskFmtTotals.lean).
  GIVEN WITH THE SEED: the statements are not yours to turn. If you find one false, say at which input.
  Laid BY PROGRAM, IN A SANDBOX (cutbox-rows.mjs): the forced cells as the released guide's own fill.sh prints them over the translation 1016eb56a4c6d976… (all of the seat's roots in one cut). By AI agents, Wed Nov 11 2026. No macro, syntax, notation, axiom, sorry.
-/
import Derived.Test.YbulkdvskFmtChecked
import GoSem.Claim
import GoSem.ClaimJoined
import GoSem.ClaimMapViews
import Derived.JoinedTies
import Derived.KernelRfl
namespace Go.Proofs.YbulkdvskFmt
/- THE CELL 'sum', in the pinned program and in every row, IS THE sha256 OF THE DUMP (.gsa) THAT YbulkdvskFmtProg.lean LOADS. Nothing in Lean hashes anything: it is a label: what it is worth is what the hold of that sum in a sandbox is worth. -/
noncomputable def Ybaf.pinned : Pinned := { name := "ybulkdvskfmt", sum := "1016eb56a4c6d9762b8ced666f020f261507d544e3c02f6a4fd3b64dbc9ab90f", checked := Ybaf.checked }
namespace Rows
def none {H : Type} : Left H := { results := [], args := [] }

/-- 'ber.LawS6120BWhole': WHATEVER THE INPUT: true; the input reads as it did. -/
def lawS6120BWholeSpec : ChangeSpec := { name := "lawS6120BWhole", fn := fun _ => fun
  | [d] => { results := [.lit (.bool true)], args := [d] }
  | _ => none }
def lawS6120BWholeRow : OpenClaim := { program := "ybulkdvskfmt", sum := "1016eb56a4c6d9762b8ced666f020f261507d544e3c02f6a4fd3b64dbc9ab90f", func := "example.com/callweft/callweft/pkg/ber.LawS6120BWhole", spec := "lawS6120BWhole", stops := ["fmt.errorf, its operands' methods called", "fmt.Sprintf"], inPlace := ["fmt.errorf"], unfollowed := true, recurses := true, apart := false }
/-- NO THEOREM (fmt's text is open here; it may be false): for the released tool's asking of the row's closed facts alone. THE STATEMENT IS 'LawS6120BWholeToldSaid' (YbulkdvskFmtCards.lean). -/
def LawS6120BWholeFormAsk : Prop := lawS6120BWholeRow.holds Ybaf.pinned (OpenSpec.ofChange lawS6120BWholeSpec)

/-- ITS FALSE NEIGHBOUR: 'it returns false'. Refute it at one input. -/
def lawS6120BWholeWrong : ChangeSpec := { name := "lawS6120BWhole", fn := fun _ => fun
  | [d] => { results := [.lit (.bool false)], args := [d] }
  | _ => none }
def LawS6120BWholeWrongFormAsk : Prop := lawS6120BWholeRow.holds Ybaf.pinned (OpenSpec.ofChange lawS6120BWholeWrong)

end Rows
end Go.Proofs.YbulkdvskFmt
