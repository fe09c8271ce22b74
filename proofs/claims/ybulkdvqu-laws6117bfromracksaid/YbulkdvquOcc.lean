/-
  setOccupied (9) on an empty board: nothing is written but 'occupied'. rackSlot (10).
-/
import Derived.Test.YbulkdvquWrote
import Derived.Deep.QuietTactic
import Derived.BigQuiet
namespace Go.Proofs.Ybulkdvqu
open Go.RowKit

/-- A row of the empty board. -/
def Rz : List Value := List.replicate 15 (.int .u8 0)
theorem rz_len : Rz.length = 15 := rfl
theorem rz_of_bz (k : Nat) (h : k < 15) : (Bz.drop (k * 15)).take 15 = Rz := by
  unfold Bz Rz
  rw [List.drop_replicate, List.take_replicate]
  congr 1
  omega

theorem index25 (w : World) (j : Nat) (h : j < 15) : (Instr.index 25 (.agg Rz.toArray) (.int .i64 j)).run Yba.prog w = .ok (.int .u8 0) w := by
  refine run_index_agg w 25 5 15 Yba.t5 Rz.toArray j _ Yba.underlying25 (by kernel_rfl) (by kernel_rfl) (by kernel_rfl) h ?_
  rw [List.getElem?_toArray]
  exact List.getElem?_replicate_of_lt h

set_option maxHeartbeats 800000 in
theorem occ_any (bg : Nat) (w : World) (hb : w.rangeAt bg 1 Bz) (ht : w.there bg 226 15) :
    Calls Yba.prog 9 #[.pointer (some ⟨bg, 0, none⟩)] w fun e w' => e = .returned (.tuple #[]) ∧ Wrote w w' bg 226 241 := by
  go_enter Yba.func9, Yba.ntmps9
  go_wp2
  go_loopw [6] (fun i wr => ∃ k : Nat, k ≤ 15 ∧ i = .int .i64 k ∧ Wrote w wr bg 226 241) (fun i _ => 15 - (intOf i).toNat)
  case atStart => exact ⟨0, Nat.zero_le _, rfl, Wrote.refl _ _ _ _⟩
  case round =>
    obtain ⟨k, hk, rfl, hW⟩ := hrel
    by_cases hlt : k < 15
    · have hr : wr.rangeAt bg (1 + k * 15) Rz := by
        have := range_sub (hW.range hb (by rw [bz_len]; omega)) (k * 15) 15
        rwa [rz_of_bz k hlt] at this
      have hk0 : (0 : Int) ≤ (k : Int) := by omega
      have hk15 : (k : Int) < 15 := by omega
      go_wp2_with (refine wpList_load_mid rfl 25 (.tmp 13) rfl bg (1 + k * 15) rfl Rz _ hr Yba.underlying25 rfl size25 ?_)
      go_loop [3, 15] (fun o i => o = .int .u32 0 ∧ ∃ j : Nat, j ≤ 15 ∧ i = .int .i64 j) (fun _ i => 15 - (intOf i).toNat)
      case atStart => exact ⟨rfl, 0, Nat.zero_le _, rfl⟩
      case round =>
        obtain ⟨rfl, j, hj, rfl⟩ := hrel
        by_cases hjl : j < 15
        · have hix := fun w => index25 w j hjl
          go_wp2
          go_round
          case rel => exact ⟨rfl, j + 1, by omega, by go_num⟩
          case measure => simp [intOf]; omega
        · obtain ⟨u, hu⟩ := Option.isSome_iff_exists.1 ((hW.still ht) k hlt).1
          have hf := ((hW.still ht) k hlt).2
          go_wp2
          go_roundw
          case rel => exact ⟨k + 1, by omega, by go_num, hW.trans (Wrote.set _ _ _ _ _ _ (by omega) (by omega))⟩
          case measure => simp [intOf]; omega
    · go_wp2
      go_end0
      exact ⟨rfl, hW⟩

/-- Where the rack counts the tile c. -/
def slotOf (c : Nat) : Nat := min ((c + 191) % 256) 26
theorem slot_le (c : Nat) : slotOf c ≤ 26 := by unfold slotOf; omega

theorem ret_int {k : IntKind} {a b : Int} (h : a = b) : Ending.returned (.int k a) = .returned (.int k b) := by rw [h]

theorem slot_any (c : Nat) (w : World) : Calls Yba.prog 10 #[.int .u8 c] w fun e w' => e = .returned (.int .i64 (slotOf c)) ∧ w' = w := by
  go_enter Yba.func10, Yba.ntmps10
  go_wp2
  · go_ret
    exact ⟨ret_int (by unfold slotOf; omega), rfl⟩
  · go_ret
    exact ⟨ret_int (by unfold slotOf; omega), rfl⟩
end Go.Proofs.Ybulkdvqu
