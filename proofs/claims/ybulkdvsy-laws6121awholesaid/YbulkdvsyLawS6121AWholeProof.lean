/-
  'Rows.LawS6121AWholeSaid' PROVED. The frame is after the kit's proof-skeleton; the walk is ours (YbulkdvsyLaw.lean and what it imports), the reading too (YbulkdvsyRead.lean).
-/
import Derived.Test.YbulkdvsyRows
import Derived.Test.YbulkdvsyLaw
import Derived.Test.YbulkdvsyRead
import Derived.WalkKit
import Derived.ProofKit
import Derived.OpenShut
import Derived.ChangeOld
import Derived.Below
import Derived.HandedShaped
namespace Go.Proofs.Ybulkdvsy.lawS6121AWhole
open Go.ChangeShapes Go.WideShapes Go.ChangeAt Go.RowKit

theorem own : ownKnob Yba.prog.godebug = none := by kernel_rfl
theorem laidOut : laidOutB Yba.prog = true := by kernel_rfl

/-- A value of three cells is a struct's. -/
theorem val_of {v : Value} {q : Qs} (h : v.cells.toList = [.int .i64 q.t, .slice q.va q.vl q.vc, .slice q.ia q.il q.ic]) : v = q.val := by
  cases v with
  | agg cs =>
    have : cs = #[.int .i64 q.t, .slice q.va q.vl q.vc, .slice q.ia q.il q.ic] := by
      apply Array.ext'
      exact h
    rw [this]
    rfl
  | _ => exact absurd (congrArg List.length h) (by simp [Value.cells])

set_option maxRecDepth 100000 in
theorem lifted (os : Os) (started : os.Started) (H : Type) (enc : TypeId × Value → H) :
    ReturnsInHanded {} Yba.checked os 3 .any (Rows.lawS6121AWholeSpec.pre6 enc Yba.prog Yba.f3 Rows.lawS6121AWholeRow.domain false) (Rows.lawS6121AWholeSpec.post enc Yba.prog Yba.f3 false true false false) := by
  refine returnsInHanded_of_change_shaped (C := Yba.checked) own started (by kernel_rfl) Yba.func3
    (ChangeSpec.witness6 (enc := enc) (C := Yba.checked) false ⟨#[], #[.agg #[.int .i64 0, .slice none 0 0, .slice none 0 0]], []⟩ 8 (by kernel_rfl) (by kernel_rfl) (by kernel_rfl) (by kernel_rfl)) ?_
  intro W base args ds gs before hval0 hW hcnd hwt _ _
  have hW' := hW
  obtain ⟨p, q, hA0, hV, rfl, hfz, hnd⟩ := hW
  have hA : DataW.TrodAll enc Yba.prog W 0 (fun _ => true) true Yba.f3.params.toList args.toList ds p := hA0
  have hwt2 : (DataW.weightsEach Yba.prog (Yba.f3.params.toList ++ Rows.lawS6121AWholeSpec.plain.varTypes Yba.prog) (ds ++ gs)).all (· ≤ reachBytes) = true := hwt
  rw [Yba.params3] at hA hwt2
  obtain ⟨v0, vs0, d0, ds0, p0, q0, hargs, rfl, rfl, h0, r0⟩ := trodAll_cons hA
  obtain ⟨rfl, rfl, rfl⟩ := trodAll_nil r0
  obtain rfl : args = #[v0] := by cases args; simp_all
  obtain ⟨rfl, rfl⟩ := trodVars_none hV
  have k0 := h0
  have lt0 : ∀ x ∈ p0, x.block < W.heap.size := by obtain ⟨m, hm⟩ := k0; exact DataW.trod_lt m _ _ _ hm
  obtain ⟨fuel, hf⟩ := h0
  obtain ⟨q, T, hcs, hI, hOk⟩ := read fuel fuel _ _ _ (Nat.le_refl _) hf
  obtain rfl := val_of hcs
  have hO : Ok fuel T := hOk fun x hx => by
    have := List.all_eq_true.1 hwt2 x (by
      show x ∈ DataW.weightsEach Yba.prog (25 :: _) (d0 :: _)
      rw [DataW.weightsEach]
      exact List.mem_append_left _ hx)
    simpa using this
  clear hA0 hval0
  refine (law_walk fuel T q W hO hI).mono fun e W' ⟨he, bel⟩ => ?_
  subst he
  exact ⟨_, rfl, _, _, _, [], _, [], hW', trodAll_mk1 (shut_bool Yba.underlying4 _), (trodAll_cons_mk (Below.trod laidOut (by kernel_rfl) (of_decide_eq_true (by kernel_rfl)) k0 bel lt0) trodAll_mk0), rfl, bel.frame _, fun h => by cases h⟩

theorem over : Rows.lawS6121AWholeRow.holds Yba.pinned (OpenSpec.ofChange Rows.lawS6121AWholeSpec) :=
  OpenClaim.holds_of_wide 3 Yba.f3 rfl rfl rfl rfl rfl rfl rfl ⟨rfl, rfl, rfl, rfl, rfl⟩ rfl rfl rfl rfl rfl (by kernel_rfl) Yba.func3 (by kernel_rfl)
    (of_decide_eq_true (by kernel_rfl)) (by unfold Func.isWrapper; first | (rw [if_pos (by decide +kernel)]; kernel_rfl) | (rw [if_neg (by decide +kernel)]; exact ⟨rfl, rfl⟩))
    (fun os started H enc _ => lifted os started H enc)

/-- THE STATEMENT. -/
theorem proved : Rows.LawS6121AWholeSaid := over
end Go.Proofs.Ybulkdvsy.lawS6121AWhole
namespace Go.Proofs.Ybulkdvsy
theorem lawS6121AWhole_proved : Rows.LawS6121AWholeSaid := lawS6121AWhole.proved
#print axioms lawS6121AWhole_proved
end Go.Proofs.Ybulkdvsy
