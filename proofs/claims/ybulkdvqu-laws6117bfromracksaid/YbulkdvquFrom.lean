/-
  newGenerator (7) and the law LawS6117BFromRack (4).
-/
import Derived.Test.YbulkdvquReset
import Derived.Test.YbulkdvquWhole
namespace Go.Proofs.Ybulkdvqu
open Go.RowKit

theorem there_row {w : World} {b : Nat} {C : Array Value} {t : TypeId} (h : w.heap[b]? = some (.cells C t (0, 0))) : w.there b 0 C.size := fun j hj => by
  rw [Nat.zero_add]
  refine ⟨?_, frozen_of_row w b j C t h⟩
  rw [cell_of_row w b j C t (0, 0) h]
  simp [hj]

set_option maxHeartbeats 800000 in
set_option maxRecDepth 100000 in
theorem new_any (s : ByteArray) (Pz : Array Value) (w : World) (hs : s.size ≤ 1048576) (hpz : Pz.size = 226) (hp : Pz[225]? = some (.string s)) (hpb : Pz.toList.take 225 = Bz) :
    Calls Yba.prog 7 #[.pointer none, .agg Pz] w fun e w' => e = .returned (.pointer (some ⟨w.heap.size + 1, 0, none⟩)) ∧ w'.cell? ⟨w.heap.size + 1, 270, none⟩ = some (.int .u32 (heldOf s.data.toList 27)) ∧ Below w.heap.size w w' := by
  obtain ⟨Z, hZs, _, _, hZb, z0, z271, z272, z4924, _, _, _⟩ := gen_zero
  obtain ⟨W, hW⟩ : ∃ W, W = (w.alloc (.cells Pz 54)).alloc (.cells Z 48) := ⟨_, rfl⟩
  have hsz : W.heap.size = w.heap.size + 2 := by rw [hW]; simp
  have hg : W.heap[w.heap.size + 1]? = some (.cells Z 48 (0, 0)) := by rw [hW]; exact heap_alloc2_new w _ _
  have hgp : W.heap[w.heap.size]? = some (.cells Pz 54 (0, 0)) := by rw [hW]; exact heap_alloc2_old w _ _
  have hB : Below w.heap.size w W := by rw [hW]; exact ((Below.refl _ _).alloc (Nat.le_refl _) _).alloc (by simp) _
  have hcell : ∀ i, W.cell? ⟨w.heap.size + 1, i, none⟩ = Z[i]? := fun i => cell_of_row W _ i Z 48 (0, 0) hg
  have hreset := reset_any (w.heap.size + 1) s Pz W (by omega) hs hp hpb (by have := there_row hg; rwa [hZs] at this) ((hcell 0).trans z0) ((hcell 271).trans z271) ((hcell 272).trans z272) ((hcell 4924).trans z4924)
  have Hr : Hid (Calls Yba.prog 8 #[.pointer (some ⟨w.heap.size + 1, 0, none⟩), .agg Pz] W fun e w' => e = .returned (.tuple #[]) ∧ w'.cell? ⟨w.heap.size + 1, 270, none⟩ = some (.int .u32 (heldOf s.data.toList 27)) ∧ Below (w.heap.size + 1) W w') := hreset
  clear hreset hcell hg z0 z271 z272 z4924 hp hpb
  subst hW
  go_enter Yba.func7, Yba.ntmps7
  go_wp2_with (first | (refine wpList_build1 rfl 48 0 (.tmp 6) rfl (.pointer none) (.agg Z) rfl (hZb _) ?_) | (refine wpList_load_row rfl 54 (.tmp 3) rfl w.heap.size rfl 54 Pz (0, 0) _ hgp Yba.underlying54 rfl (by rw [hpz]; exact size54) ?_))
  refine Hr.out.mono ?_
  rintro e w' ⟨rfl, hc, hb⟩
  go_wp2
  go_ret
  exact ⟨rfl, hc, hB.trans (hb.mono (by omega))⟩

theorem from_long (s : ByteArray) (w : World) (h : ¬ s.size ≤ 1048576) (hm : s.size ≤ maxLen) : Calls Yba.prog 4 #[.string s] w fun e w' => e = .returned (.bool true) ∧ Below w.heap.size w w' := by
  unfold maxLen at hm
  have h1 : (1048576 : Int) < (s.size : Int) := by omega
  go_enter Yba.func4, Yba.ntmps4
  go_wp2
  go_ret
  exact ⟨rfl, Below.refl _ _⟩

theorem blank_bit (l : List UInt8) : (bits .and .u32 ((heldOf l 27 : Nat) : Int) 67108864 != 0) = blankOf l := by
  have hl := held_lt l 27
  have e3 : bits .and .u32 ((heldOf l 27 : Nat) : Int) 67108864 = ((heldOf l 27 &&& 67108864 : Nat) : Int) := u32_and_nat _ 67108864 (by omega) (by decide)
  have e4 : heldOf l 27 &&& 67108864 = if (heldOf l 27).testBit 26 then 67108864 else 0 := and_pow _ 26
  rw [e3, e4, held_blank]
  cases blankOf l <;> simp

theorem or_set (l : List UInt8) (j : Nat) (hj : j < 26) : bits .or .u32 (setOf l) (2 ^ j % 4294967296) = ((setOf l ||| 2 ^ j : Nat) : Int) := by
  have h1 := set_lt l
  have h2 : 2 ^ j < 4294967296 := Nat.lt_of_lt_of_le (Nat.pow_lt_pow_right (by decide) hj) (by decide)
  have e : ((2 : Int) ^ j % 4294967296) = ((2 ^ j : Nat) : Int) := by
    rw [show ((2 : Int) ^ j) = ((2 ^ j : Nat) : Int) by simp]
    generalize 2 ^ j = N at h2 ⊢
    omega
  rw [e, u32_or_nat _ _ (by omega) h2]

set_option maxHeartbeats 800000 in
set_option maxRecDepth 100000 in
theorem from_short (s : ByteArray) (w : World) (hs : s.size ≤ 1048576) : Calls Yba.prog 4 #[.string s] w fun e w' => e = .returned (.bool true) ∧ Below w.heap.size w w' := by
  have h1 : ¬ (1048576 : Int) < (s.size : Int) := by omega
  obtain ⟨Pz, hPz⟩ : ∃ Pz, Pz = (Bz ++ [Value.string s]).toArray := ⟨_, rfl⟩
  have hB := build54 s
  have hpz : Pz.size = 226 := by rw [hPz]; simp [bz_len]
  have hp : Pz[225]? = some (.string s) := by
    rw [hPz, List.getElem?_toArray, List.getElem?_append_right (by rw [bz_len]; omega), bz_len]; rfl
  have hpb : Pz.toList.take 225 = Bz := by rw [hPz]; exact List.take_left' bz_len
  rw [← hPz] at hB
  have HN : Hid (∀ w : World, Calls Yba.prog 7 #[.pointer none, .agg Pz] w fun e w' => e = .returned (.pointer (some ⟨w.heap.size + 1, 0, none⟩)) ∧ w'.cell? ⟨w.heap.size + 1, 270, none⟩ = some (.int .u32 (heldOf s.data.toList 27)) ∧ Below w.heap.size w w') := fun w => new_any s Pz w hs hpz hp hpb
  clear hp hpb hpz hPz
  go_enter Yba.func4, Yba.ntmps4
  go_wp2_with (refine wpList_build1 rfl 54 1 (.tmp 13) rfl (.string s) (.agg Pz) rfl (hB _) ?_)
  refine (HN.out w).mono ?_
  rintro e w1 ⟨rfl, hc, hb⟩
  have hbit : (bits .and .u32 ((heldOf s.data.toList 27 : Nat) : Int) 67108864 != 0) = blankOf s.data.toList := blank_bit _
  by_cases hbl : blankOf s.data.toList = true
  · rw [hbl] at hbit
    go_wp2_with (go_at_call 5; refine (play_yes _ _ _ hc hbit).mono ?_; rintro e w' ⟨rfl, rfl⟩)
    go_loop [5, 6, 7] (fun sb st si => ∃ k : Nat, k ≤ s.size ∧ si = .int .i64 k ∧ sb = .bool (blankOf (s.data.toList.take k)) ∧ st = .int .u32 (setOf (s.data.toList.take k))) (fun _ _ si => s.size - (intOf si).toNat)
    case atStart => exact ⟨0, Nat.zero_le _, rfl, rfl, rfl⟩
    case round =>
      obtain ⟨k, hk, rfl, rfl, rfl⟩ := hrel
      by_cases hlt : k < s.size
      · have HT : Hid (s.data.toList.take (k + 1) = s.data.toList.take k ++ [s[k]]) := take_next s k hlt
        by_cases l1 : 65 ≤ s[k].toNat
        · by_cases l2 : s[k].toNat ≤ 90
          · go_wp2
            go_round
            case rel => exact ⟨k + 1, by omega, by go_num, by rw [HT.out, blank_snoc, if_pos ⟨l1, l2⟩], by rw [HT.out, set_snoc, if_pos ⟨l1, l2⟩, or_set _ _ (by omega)]⟩
            case measure => simp [intOf]; omega
          · go_wp2
            go_round
            case rel => exact ⟨k + 1, by omega, by go_num, by rw [HT.out, blank_snoc, if_neg (by omega)], by rw [HT.out, set_snoc, if_neg (by omega)]⟩
            case measure => simp [intOf]; omega
        · go_wp2
          go_round
          case rel => exact ⟨k + 1, by omega, by go_num, by rw [HT.out, blank_snoc, if_neg (by omega)], by rw [HT.out, set_snoc, if_neg (by omega)]⟩
          case measure => simp [intOf]; omega
      · have e1 : s.data.toList.take k = s.data.toList := List.take_of_length_le (by simp; omega)
        rw [e1, hbl]
        clear e1
        go_wp2_with (go_at_call 6; refine (ball_any _).mono ?_; rintro e w' ⟨rfl, rfl⟩)
        go_ret
        exact ⟨rfl, hb⟩
  · have hbl : blankOf s.data.toList = false := by simpa using hbl
    rw [hbl] at hbit
    go_wp2_with (go_at_call 5; refine (play_no _ _ _ hc hbit).mono ?_; rintro e w' ⟨rfl, rfl⟩)
    go_loop [5, 6, 7] (fun sb st si => ∃ k : Nat, k ≤ s.size ∧ si = .int .i64 k ∧ sb = .bool (blankOf (s.data.toList.take k)) ∧ st = .int .u32 (setOf (s.data.toList.take k))) (fun _ _ si => s.size - (intOf si).toNat)
    case atStart => exact ⟨0, Nat.zero_le _, rfl, rfl, rfl⟩
    case round =>
      obtain ⟨k, hk, rfl, rfl, rfl⟩ := hrel
      by_cases hlt : k < s.size
      · have HT : Hid (s.data.toList.take (k + 1) = s.data.toList.take k ++ [s[k]]) := take_next s k hlt
        by_cases l1 : 65 ≤ s[k].toNat
        · by_cases l2 : s[k].toNat ≤ 90
          · go_wp2
            go_round
            case rel => exact ⟨k + 1, by omega, by go_num, by rw [HT.out, blank_snoc, if_pos ⟨l1, l2⟩], by rw [HT.out, set_snoc, if_pos ⟨l1, l2⟩, or_set _ _ (by omega)]⟩
            case measure => simp [intOf]; omega
          · go_wp2
            go_round
            case rel => exact ⟨k + 1, by omega, by go_num, by rw [HT.out, blank_snoc, if_neg (by omega)], by rw [HT.out, set_snoc, if_neg (by omega)]⟩
            case measure => simp [intOf]; omega
        · go_wp2
          go_round
          case rel => exact ⟨k + 1, by omega, by go_num, by rw [HT.out, blank_snoc, if_neg (by omega)], by rw [HT.out, set_snoc, if_neg (by omega)]⟩
          case measure => simp [intOf]; omega
      · have e1 : s.data.toList.take k = s.data.toList := List.take_of_length_le (by simp; omega)
        rw [e1, hbl]
        clear e1
        have HE : (((heldOf s.data.toList 27 : Nat) : Int) == ((setOf s.data.toList : Nat) : Int)) = true := by rw [held_set _ hbl]; simp
        go_wp2
        go_ret
        exact ⟨rfl, hb⟩
end Go.Proofs.Ybulkdvqu
