/-
  slices.Clone[[]int,int] (function 5): nil of nil; else a row of the call's own that holds the same numbers.
-/
import Derived.Test.YbulkdvpsHas
namespace Go.Proofs.Ybulkdvps
open Go.RowKit

theorem clone_nil (w : World) :
    Calls Yba.prog 5 #[.slice none 0 0] w fun e w' => e = .returned (.slice none 0 0) ∧ w' = w := by
  have q22 := fun (w : World) (a : Option Addr) (n c n' c' : Nat) => Lib.run_eql_slice_nil (P := Yba.prog) w 22 3 a n c n' c' Yba.underlying22
  go_enter Yba.func5, Yba.ntmps5
  go_wp2
  go_ret
  exact ⟨rfl, rfl⟩

set_option maxHeartbeats 400000 in
theorem clone_some (x : Addr) (n c : Nat) (xs : List Int) (w : World) (hl : xs.length = n) (hm : n ≤ 1048576)
    (hc : ∀ j u, (xs.map (Value.int .i64))[j]? = some u → w.cell? (x.add j) = some u) :
    Calls Yba.prog 5 #[.slice (some x) n c] w fun e w' => ∃ v, e = .returned v ∧ v ≠ .slice none 0 0 ∧ w'.ownsRow w.heap.size 3 1 v n (xs.map (Value.int .i64)) ∧ Below w.heap.size w w' := by
  have q22 := fun (w : World) (a : Option Addr) (n c n' c' : Nat) => Lib.run_eql_slice_nil (P := Yba.prog) w 22 3 a n c n' c' Yba.underlying22
  obtain ⟨i0, hi, hz0, hz1, hz2⟩ := info_parts Yba.info3
  go_enter Yba.func5, Yba.ntmps5
  go_wp2_with (at_builtin; refine wpList_append_own _ rfl _ _ 22 rfl w.heap.size 3 i0 (.int .i64 0) 1 8 Yba.underlying22 hi hz0 hz1 hz2 rfl (by decide) _ 0 [] rfl ?c0 x n c (xs.map (Value.int .i64)) rfl ?c6 ?c1 ?c2 ?c3 ?c4 ?c5 ?_)
  case c0 => exact World.ownsRow_made w #[] 0 (Nat.le_refl _) (by unfold maxLen; omega) rfl
  case c6 => simp [hl]
  case c1 =>
    intro j u hj
    have hu := hc j u hj
    exact (World.cell?_alloc_lt w _ _ (World.block_lt_of_cell? w _ hu)).trans hu
  case c2 => exact ints_oneCell _ _
  case c3 => unfold maxLen; omega
  case c4 => omega
  case c5 => simp
  intro v' w1 hown' hgrow hnil
  go_wp2
  go_ret
  refine ⟨v', rfl, fun e => ?_, by simpa using hown', ((Below.refl _ _).alloc (Nat.le_refl _) _).grown hgrow (by simp) (fun k hk => ?_)⟩
  · simp [e] at hnil
  · simp [Value.ownBlock] at hk; omega

/-- WHATEVER SLICE HOLDS xs. -/
theorem clone_any (a : Option Addr) (n c : Nat) (xs : List Int) (w : World) (hnil : a = none → c = 0) (hm : n ≤ 1048576) (h : Has w a n xs) :
    Calls Yba.prog 5 #[.slice a n c] w fun e w' => ∃ v, e = .returned v ∧ (v = .slice none 0 0 ↔ a = none) ∧ w'.ownsRow w.heap.size 3 1 v n (xs.map (Value.int .i64)) ∧ Below w.heap.size w w' := by
  cases a with
  | none =>
    obtain rfl := hnil rfl
    have h0 : n = 0 := by
      by_cases hn : n = 0
      · exact hn
      · obtain ⟨_, _, e, _⟩ := h.2 (by omega)
        cases e
    subst h0
    have hx : xs = [] := List.eq_nil_of_length_eq_zero h.1
    subst hx
    exact (clone_nil w).mono fun e w' ⟨he, hw⟩ => ⟨_, he, by simp, by rw [hw]; exact World.ownsRow_nil _ _ _ _, by rw [hw]; exact Below.refl _ _⟩
  | some x =>
    refine (clone_some x n c xs w h.1 hm fun j u hj => ?_).mono fun e w' ⟨v, he, hv, ho, hb⟩ => ⟨v, he, by simp [hv], ho, hb⟩
    have hjl : j < xs.length := by
      have := (List.getElem?_eq_some_iff.1 hj).1
      simpa using this
    have hn := h.1
    obtain ⟨b, off, e, _, hcl⟩ := h.2 (by omega)
    cases e
    rw [Go.WideShapes.add_plain, hcl j (by omega), ← hj]
    simp [List.getElem?_eq_getElem hjl]
end Go.Proofs.Ybulkdvps
