/-
  CLOSED FACTS of rackwright's generator (type 48: 5,142 cells; 'held' is cell 270).
-/
import Derived.Test.YbulkdvquRows
import Derived.WalkKit
import Derived.WalkSpells
import Derived.WalkLawsBesides
import Derived.ProofKit
namespace Go.Proofs.Ybulkdvqu
open Go.RowKit

/-- '&generator{held: h}': the zero generator's cells, the 270th of them h. -/
theorem build_held : ∃ Z : Array Value, Z.size = 5142 ∧ ∀ (h : Int) (w : World), (Instr.build 48 #[(6, .int .u32 h)]).run Yba.prog w = .ok (.agg (Z.setIfInBounds 270 (.int .u32 h))) w :=
  ⟨(match Yba.t48.zero with | some (.agg z) => z | _ => #[]), by kernel_rfl, fun h w => by kernel_rfl⟩

section
variable {P : Program} {ops : Array Oper} {rest : List Oper} {o : Oper} {a : Act} {w : World} {Q : Exit → Act → World → Prop}

/-- A composite literal with one part, its run known. -/
theorem wpList_build1 (hgd : o.guard = Option.none) (t i : Nat) (x : Operand) (ho : o.op = .build t #[(i, x)]) (u v : Value) (hu : a.eval x = u) (hr : (Instr.build t #[(i, u)]).run P w = .ok v w)
    (h : wpList P ops Q rest (a.put o.dst v) w) : wpList P ops Q (o :: rest) a w := by
  refine wpList_plain hgd fun K hK => ?_
  unfold Oper.wp execOp
  simp only [ho, List.map_toArray, List.map_cons, List.map_nil, hu, Sem.run_bind, Sem.run_pure, hr, Result.andThen_ok]
  exact hK _ _ h
end
end Go.Proofs.Ybulkdvqu
