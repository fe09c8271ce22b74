/-
  WHAT A SLICE OF int HOLDS, in a world: 'Has w a n xs'. And the laws by which it is carried on.
-/
import Derived.Test.YbulkdvpsRows
import Derived.Test.YbulkdvpsMath
import Derived.WalkKit
import Derived.WalkSpells
import Derived.WalkLawsBesides
import Derived.Below
import Derived.Deep.Draws
import Derived.ProofKit
namespace Go.Proofs.Ybulkdvps
open Go.RowKit

theorem Yba.info3 : (Yba.prog.info? 3).map (fun i => (i.zero, i.size, i.bytes)) = some (some (.int .i64 0), 1, 8) := by kernel_rfl

/-- The slice with the address a and the length n holds the numbers xs. -/
def Has (w : World) (a : Option Addr) (n : Nat) (xs : List Int) : Prop :=
  xs.length = n ∧ (0 < n → ∃ b off, a = some ⟨b, off, none⟩ ∧ b < w.heap.size ∧ ∀ t, t < n → w.cell? ⟨b, off + t, none⟩ = some (.int .i64 (xs.getD t 0)))

/-- A slice in a row of the call's own. -/
theorem Has.ofOwn {w : World} {base n : Nat} {v : Value} {xs : List Int} (h : w.ownsRow base 3 1 v n (xs.map (Value.int .i64))) :
    ∃ a c, v = .slice a n c ∧ n ≤ c ∧ c ≤ maxLen ∧ Has w a n xs ∧ (a = none → c = 0) := by
  have hl : xs.length = n := by simpa using h.1
  rcases h.2 with ⟨rfl, rfl⟩ | ⟨g, cap, cur, rfl, hb, hg, hnc, hcm, hcs, htake⟩
  · exact ⟨none, 0, rfl, Nat.le_refl _, by unfold maxLen; omega, ⟨hl, fun h => by omega⟩, fun _ => rfl⟩
  · refine ⟨some ⟨g, 0, none⟩, cap, rfl, hnc, hcm, ⟨hl, fun _ => ⟨g, 0, rfl, (Array.getElem?_eq_some_iff.1 hg).1, fun t ht => ?_⟩⟩, fun e => by cases e⟩
    have := h.cells (g := g) rfl t (.int .i64 (xs.getD t 0)) (by simp [List.getElem?_eq_getElem (show t < xs.length by omega)])
    rw [Go.WideShapes.add_plain] at this
    simpa using this

/-- Below the heap's size nothing has turned: it holds what it held. -/
theorem Has.below {w w' : World} {a : Option Addr} {n : Nat} {xs : List Int} (h : Has w a n xs) (hb : Below w.heap.size w w') : Has w' a n xs :=
  ⟨h.1, fun hn => by
    obtain ⟨b, off, e, hlt, hc⟩ := h.2 hn
    exact ⟨b, off, e, Nat.lt_of_lt_of_le hlt hb.size, fun t ht => (hb.cell (by exact hlt)).trans (hc t ht)⟩⟩

theorem below_drewN {B : Nat} {a w : World} (h : Below B a w) (q : Nat) : Below B a (w.drewN q) := ⟨h.os, h.tape, h.output, h.size, h.block⟩
end Go.Proofs.Ybulkdvps
