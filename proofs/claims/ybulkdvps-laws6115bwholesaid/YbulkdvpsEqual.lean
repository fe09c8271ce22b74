/-
  slices.Equal[[]int,int] (function 8) of two slices that hold the same numbers: true.
-/
import Derived.Test.YbulkdvpsHas
import Derived.Deep.QuietTactic
import Derived.BigQuiet
namespace Go.Proofs.Ybulkdvps
open Go.RowKit

theorem equal_none (a1 a2 : Option Addr) (c1 c2 : Nat) (w : World) :
    Calls Yba.prog 8 #[.slice a1 0 c1, .slice a2 0 c2] w fun e w' => e = .returned (.bool true) ∧ ∃ q, w' = w.drewN q := by
  go_enter Yba.func8, Yba.ntmps8
  go_wp2
  go_loop [13] (fun i => i = .int .i64 0) (fun i => (intOf i).toNat)
  case atStart => rfl
  case round =>
    subst hrel
    go_wp2
    go_ret
    exact ⟨rfl, 0, rfl⟩

theorem equal_some (b1 o1 b2 o2 n c1 c2 : Nat) (xs : List Int) (w : World) (hl : xs.length = n) (hm : n ≤ maxLen)
    (g1 : ∀ t, t < n → w.cell? ⟨b1, o1 + t, none⟩ = some (.int .i64 (xs.getD t 0))) (g2 : ∀ t, t < n → w.cell? ⟨b2, o2 + t, none⟩ = some (.int .i64 (xs.getD t 0))) :
    Calls Yba.prog 8 #[.slice (some ⟨b1, o1, none⟩) n c1, .slice (some ⟨b2, o2, none⟩) n c2] w fun e w' => e = .returned (.bool true) ∧ ∃ q, w' = w.drewN q := by
  unfold maxLen at hm
  go_enter Yba.func8, Yba.ntmps8
  go_wp2
  go_loopw [13] (fun i wr => ∃ k q : Nat, k ≤ n ∧ i = .int .i64 k ∧ wr = w.drewN q) (fun i _ => n - (intOf i).toNat)
  case atStart => exact ⟨0, 0, Nat.zero_le _, rfl, rfl⟩
  case round =>
    obtain ⟨k, q, hk, rfl, rfl⟩ := hrel
    by_cases hlt : k < n
    · have h1 := g1 k hlt
      have h2 := g2 k hlt
      go_wp2
      go_quiet (fail)
      go_wp2
      go_roundw
      case rel => exact ⟨k + 1, q + nq, by omega, by go_num, by simp⟩
      case measure => simp [intOf]; omega
    · go_wp2
      go_ret
      exact ⟨rfl, q, rfl⟩

/-- TWO SLICES THAT HOLD THE SAME NUMBERS. -/
theorem equal_any (a1 a2 : Option Addr) (n c1 c2 : Nat) (xs : List Int) (w : World) (hm : n ≤ maxLen) (h1 : Has w a1 n xs) (h2 : Has w a2 n xs) :
    Calls Yba.prog 8 #[.slice a1 n c1, .slice a2 n c2] w fun e w' => e = .returned (.bool true) ∧ ∃ q, w' = w.drewN q := by
  by_cases h0 : n = 0
  · subst h0
    exact equal_none a1 a2 c1 c2 w
  · obtain ⟨b1, o1, rfl, _, g1⟩ := h1.2 (by omega)
    obtain ⟨b2, o2, rfl, _, g2⟩ := h2.2 (by omega)
    exact equal_some b1 o1 b2 o2 n c1 c2 xs w h1.1 hm g1 g2
end Go.Proofs.Ybulkdvps
