/-
  DERIVED. GIVEN WITH THE SEED: THE CARDS: each row of YbulkdvskFmtRows.lean that lists a variable, with what it lists TIED to the program's text (the seventh form; the later family's looks); each row that meets fmt, with fmt's text TOLD by the authors' own Lean function (tested against real Go, not proved from fmt's source: count such statements apart). THE CARD IS WHAT COUNTS. Prove the row's statement (the work); the ties are given (YbulkdvskFmtTie.lean); close each card by the builder's one call (the guide's Derived/Test/ToyasCard.lean, 'card_holds'). Laid BY PROGRAM, IN A SANDBOX (cutbox-door.mjs). By AI agents, Wed Nov 11 2026. No macro, syntax, notation, axiom, sorry.
-/
import Derived.Test.YbulkdvskFmtRows
import GoSem.ClaimSeven
namespace Go.Proofs.YbulkdvskFmt
namespace Rows

/-- THE TOLD CARD OF 'ber.LawS6120BWhole'. -/
def lawS6120BWholeCard : Claim7 := { stood := { row := lawS6120BWholeRow, standIns := [], harness := (true, "c49f938615a1878e43d55f82c38682e6a9c166816b3fa7ccfc2e9b7801c3cfeb"), looks := false }, told := true, goes := false }
def LawS6120BWholeToldSaid : Prop := Claim7.holds Ybaf.pinned (.plain (OpenSpec.ofChange lawS6120BWholeSpec)) lawS6120BWholeCard
/-- ITS FALSE NEIGHBOUR. Refute it at one input. -/
def LawS6120BWholeToldWrongFalsely : Prop := Claim7.holds Ybaf.pinned (.plain (OpenSpec.ofChange lawS6120BWholeWrong)) lawS6120BWholeCard
end Rows
end Go.Proofs.YbulkdvskFmt
