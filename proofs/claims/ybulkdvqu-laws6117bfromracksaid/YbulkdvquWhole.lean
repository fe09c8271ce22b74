/-
  playable (5), zzs6117ball (6), the law LawS6117BWhole (3).
-/
import Derived.Test.YbulkdvquBase
import Derived.Deep.QuietTactic
import Derived.Laws.BitsAllLaws
import Derived.BigQuiet
namespace Go.Proofs.Ybulkdvqu
open Go.RowKit

theorem play_yes (b : Nat) (h : Int) (w : World) (hc : w.cell? ⟨b, 270, none⟩ = some (.int .u32 h)) (hb : (bits .and .u32 h 67108864 != 0) = true) :
    Calls Yba.prog 5 #[.pointer (some ⟨b, 0, none⟩)] w fun e w' => e = .returned (.int .u32 67108863) ∧ w' = w := by
  go_enter Yba.func5, Yba.ntmps5
  go_wp2
  go_ret
  exact ⟨rfl, rfl⟩

theorem play_no (b : Nat) (h : Int) (w : World) (hc : w.cell? ⟨b, 270, none⟩ = some (.int .u32 h)) (hb : (bits .and .u32 h 67108864 != 0) = false) :
    Calls Yba.prog 5 #[.pointer (some ⟨b, 0, none⟩)] w fun e w' => e = .returned (.int .u32 h) ∧ w' = w := by
  go_enter Yba.func5, Yba.ntmps5
  go_wp2
  go_ret
  exact ⟨rfl, rfl⟩

theorem or_step (k : Nat) (h : k < 26) : bits .or .u32 (2 ^ k - 1) (2 ^ k % 4294967296) = 2 ^ (k + 1) - 1 := by
  have : ∀ k : Fin 26, bits .or .u32 (2 ^ k.val - 1) (2 ^ k.val % 4294967296) = 2 ^ (k.val + 1) - 1 := by decide +kernel
  exact this ⟨k, h⟩

theorem ball_any (w : World) : Calls Yba.prog 6 #[] w fun e w' => e = .returned (.int .u32 67108863) ∧ w' = w := by
  go_enter Yba.func6, Yba.ntmps6
  go_wp2
  go_loop [1, 2] (fun s i => ∃ k : Nat, k ≤ 26 ∧ i = .int .i64 k ∧ s = .int .u32 (2 ^ k - 1)) (fun _ i => 26 - (intOf i).toNat)
  case atStart => exact ⟨0, by omega, rfl, rfl⟩
  case round =>
    obtain ⟨k, hk, rfl, rfl⟩ := hrel
    by_cases hlt : k < 26
    · go_wp2
      go_round
      case rel => exact ⟨k + 1, by omega, by go_num, by rw [or_step k hlt]⟩
      case measure => simp [intOf]; omega
    · go_wp2
      go_ret
      obtain rfl : k = 26 := by omega
      exact ⟨rfl, rfl⟩

theorem and_pow (n i : Nat) : n &&& 2 ^ i = if n.testBit i then 2 ^ i else 0 := by
  apply Nat.eq_of_testBit_eq
  intro j
  rw [Nat.testBit_and, Nat.testBit_two_pow]
  by_cases e : i = j
  · subst e
    by_cases h : n.testBit i = true
    · simp [h]
    · simp at h; simp [h]
  · by_cases h : n.testBit i = true
    · simp [h, e]
    · simp at h; simp [h, e]

/-- The blank's bit, asked for in two ways. -/
theorem bit26 (h : Int) (h0 : 0 ≤ h) (h1 : h < 4294967296) : (bits .and .u32 (h / 67108864) 1 == 1) = (bits .and .u32 h 67108864 != 0) := by
  obtain ⟨n, rfl⟩ := Int.eq_ofNat_of_zero_le h0
  have hn : n < 4294967296 := by omega
  have e1 : ((n : Int) / 67108864) = ((n / 67108864 : Nat) : Int) := by simp
  have e2 : bits .and .u32 ((n : Int) / 67108864) 1 = ((n / 67108864 &&& 1 : Nat) : Int) := by
    rw [e1]; exact u32_and_nat (n / 67108864) 1 (by omega) (by decide)
  have e3 : bits .and .u32 (n : Int) 67108864 = ((n &&& 67108864 : Nat) : Int) := u32_and_nat n 67108864 hn (by decide)
  rw [e2, e3]
  have e4 : n &&& 67108864 = if n.testBit 26 then 67108864 else 0 := and_pow n 26
  have e5 : n.testBit 26 = (n / 67108864 % 2 == 1) := by
    rw [Nat.testBit_eq_decide_div_mod_eq]
    rfl
  rw [e4, Nat.and_one_is_mod, e5]
  rcases Nat.mod_two_eq_zero_or_one (n / 67108864) with h | h <;> simp [h]

set_option maxHeartbeats 400000 in
theorem law_yes (h : Int) (w : World) (hb : (bits .and .u32 h 67108864 != 0) = true) (hs : (bits .and .u32 (h / 67108864) 1 == 1) = true) :
    Calls Yba.prog 3 #[.int .u32 h] w fun e w' => e = .returned (.bool true) ∧ Grown w w' := by
  obtain ⟨Z, hz, hB0⟩ := build_held
  obtain ⟨Z6, hZ6⟩ : ∃ Z6 : Array Value, Z6 = Z.setIfInBounds 270 (.int .u32 h) := ⟨_, rfl⟩
  have hB := hB0 h
  have hc6 : Z6[270]? = some (.int .u32 h) := by rw [hZ6]; simp [hz]
  rw [← hZ6] at hB
  clear hB0 hZ6 hz
  have hcell : (w.alloc (.cells Z6 48)).cell? ⟨w.heap.size, 270, none⟩ = some (.int .u32 h) := (World.cell?_alloc_at (w := w) Z6 48 w.heap.size 270 rfl).trans hc6
  go_enter Yba.func3, Yba.ntmps3
  go_wp2_with (refine wpList_build1 rfl 48 6 (.tmp 6) rfl (.int .u32 h) (.agg Z6) rfl (hB _) ?_)
  refine (play_yes w.heap.size h _ hcell hb).mono ?_
  rintro e w' ⟨rfl, rfl⟩
  go_wp2_with (go_at_call 6; refine (ball_any _).mono ?_; rintro e w' ⟨rfl, rfl⟩)
  go_ret
  exact ⟨rfl, by repeat (first | exact Grown.refl _ | apply Grown.drew | apply Grown.alloc)⟩

set_option maxHeartbeats 400000 in
theorem law_no (h : Int) (w : World) (hb : (bits .and .u32 h 67108864 != 0) = false) (hs : (bits .and .u32 (h / 67108864) 1 == 1) = false) :
    Calls Yba.prog 3 #[.int .u32 h] w fun e w' => e = .returned (.bool true) ∧ Grown w w' := by
  obtain ⟨Z, hz, hB0⟩ := build_held
  obtain ⟨Z6, hZ6⟩ : ∃ Z6 : Array Value, Z6 = Z.setIfInBounds 270 (.int .u32 h) := ⟨_, rfl⟩
  have hB := hB0 h
  have hc6 : Z6[270]? = some (.int .u32 h) := by rw [hZ6]; simp [hz]
  rw [← hZ6] at hB
  clear hB0 hZ6 hz
  have hcell : (w.alloc (.cells Z6 48)).cell? ⟨w.heap.size, 270, none⟩ = some (.int .u32 h) := (World.cell?_alloc_at (w := w) Z6 48 w.heap.size 270 rfl).trans hc6
  go_enter Yba.func3, Yba.ntmps3
  go_wp2_with (refine wpList_build1 rfl 48 6 (.tmp 6) rfl (.int .u32 h) (.agg Z6) rfl (hB _) ?_)
  refine (play_no w.heap.size h _ hcell hb).mono ?_
  rintro e w' ⟨rfl, rfl⟩
  go_wp2
  go_ret
  exact ⟨rfl, by repeat (first | exact Grown.refl _ | apply Grown.drew | apply Grown.alloc)⟩

theorem law_whole (h : Int) (w : World) (h0 : 0 ≤ h) (h1 : h < 4294967296) : Calls Yba.prog 3 #[.int .u32 h] w fun e w' => e = .returned (.bool true) ∧ Grown w w' := by
  have hb := bit26 h h0 h1
  by_cases hy : (bits .and .u32 h 67108864 != 0) = true
  · exact law_yes h w hy (hb.trans hy)
  · have hn : (bits .and .u32 h 67108864 != 0) = false := by simpa using hy
    exact law_no h w hn (hb.trans hn)
end Go.Proofs.Ybulkdvqu
