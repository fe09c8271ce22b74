/-
  zzs6115bbuild (function 4): an ascending row of the call's own, as long as the steps.
-/
import Derived.Test.YbulkdvpsHas
namespace Go.Proofs.Ybulkdvps
open Go.RowKit

/-- ONE STEP: u is at least v; it is laid behind. -/
theorem rel_step {w wr w1 : World} {out v' : Value} {k : Nat} {xs : List Int} {v u : Int} {o : Obj} (huv : v ≤ u) (hasc : Asc xs) (hle : ∀ y, y ∈ xs → y ≤ v)
    (hown : wr.ownsRow w.heap.size 3 1 out k (xs.map (Value.int .i64))) (hnx : Below w.heap.size w wr)
    (hown' : w1.ownsRow w.heap.size 3 1 v' (k + 1) (xs.map (Value.int .i64) ++ [.int .i64 u])) (hgrow : (wr.alloc o).grownBy w1 out.ownBlock) :
    Asc (xs ++ [u]) ∧ (∀ y, y ∈ xs ++ [u] → y ≤ u) ∧ w1.ownsRow w.heap.size 3 1 v' (k + 1) ((xs ++ [u]).map (Value.int .i64)) ∧ Below w.heap.size w w1 := by
  have hs := hnx.size
  refine ⟨asc_snoc xs u hasc fun y hy => Int.le_trans (hle y hy) huv, fun y hy => ?_, by simpa using hown', (hnx.alloc hs _).grown hgrow (by simp; omega) fun g hg => (hown.lt g hg).1⟩
  rcases List.mem_append.1 hy with h | h
  · exact Int.le_trans (hle y h) huv
  · simp at h; omega

set_option maxHeartbeats 800000 in
theorem build_some (bs : Int) (b off n c : Nat) (zs : List Int) (w : World) (hbs : -128 ≤ bs) (hbs' : bs ≤ 127) (hm : n ≤ 4096) (hblt : b < w.heap.size) (hzl : n ≤ zs.length)
    (hc : ∀ t, t < n → w.cell? ⟨b, off + t, none⟩ = some (.int .u8 (zs.getD t 0))) (hz : ∀ t, t < n → 0 ≤ zs.getD t 0 ∧ zs.getD t 0 ≤ 255) :
    Calls Yba.prog 4 #[.int .i8 bs, .slice (some ⟨b, off, none⟩) n c] w fun e w' => ∃ v xs, e = .returned v ∧ v ≠ .slice none 0 0 ∧ Asc xs ∧ w'.ownsRow w.heap.size 3 1 v n (xs.map (Value.int .i64)) ∧ Below w.heap.size w w' := by
  obtain ⟨i0, hi, hz0, hz1, hz2⟩ := info_parts Yba.info3
  go_enter Yba.func4, Yba.ntmps4
  go_wp2_with (at_make; refine wpList_make_own _ rfl _ _ 22 rfl w.heap.size 3 i0 (.int .i64 0) 1 Yba.underlying22 hi hz0 hz1 _ _ _ n rfl rfl (by omega) ?b2 ?b3 (Nat.le_refl _) ?_)
  case b2 => rw [hz2]; omega
  case b3 => unfold maxLen; omega
  intro w0 hown0 hgrow0
  go_wp2
  go_loopw [5, 6, 16] (fun out sv si wr => ∃ (k : Nat) (xs : List Int) (v : Int), k ≤ n ∧ si = .int .i64 k ∧ sv = .int .i64 v ∧ -128 ≤ v ∧ v ≤ 127 + 2 * k ∧ Asc xs ∧ (∀ y, y ∈ xs → y ≤ v) ∧
      wr.ownsRow w.heap.size 3 1 out k (xs.map (Value.int .i64)) ∧ Below w.heap.size w wr ∧ out ≠ .slice none 0 0)
    (fun _ _ si _ => n - (intOf si).toNat)
  case atStart => exact ⟨0, [], bs, Nat.zero_le _, rfl, rfl, hbs, by omega, by simp [Asc], by simp, hown0, (Below.refl _ _).grown hgrow0 (Nat.le_refl _) (fun k h => by cases h), by simp⟩
  case round =>
    obtain ⟨k, xs, v, hk, rfl, rfl, hv1, hv2, hasc, hle, hown, hnx, hnn⟩ := hrel
    by_cases hlt : k < n
    · have g := (hnx.cell (p := ⟨b, off + k, none⟩) (by exact hblt)).trans (hc k hlt)
      have gz := hz k hlt
      obtain ⟨d, hd⟩ : ∃ d, d = zs.getD k 0 := ⟨_, rfl⟩
      rw [← hd] at g gz
      clear hd hc hz
      have hd3 := Int.tmod_eq_emod_of_nonneg (b := 3) gz.1
      have hmul := hnx.size
      by_cases hk0 : 0 < k
      · go_wp2_with (at_builtin; (refine wpList_append_own _ rfl _ _ 22 rfl w.heap.size 3 i0 (.int .i64 0) 1 8 Yba.underlying22 hi hz0 hz1 hz2 rfl (by decide) _ _ _ rfl (hown.alloc _) ⟨wr.heap.size, 0, none⟩ 1 1 [.int .i64 (v + d % 3)] rfl rfl ?c1 ?c2 ?c3 ?c4 ?c5 ?_))
        case c1 => exact cell_one_new _ _ _
        case c2 => intro u hu; simp at hu; subst hu; rfl
        case c3 => unfold maxLen; omega
        case c4 => omega
        case c5 => simp; omega
        intro v' w1 hown' hgrow hnil
        have hnn' : v' ≠ .slice none 0 0 := fun e => by simp [e] at hnil
        have R := rel_step (v := v) (u := v + d % 3) (by omega) hasc hle hown hnx hown' hgrow
        clear hown' hgrow hown hnil
        go_wp2
        go_roundw
        case rel => exact ⟨k + 1, xs ++ [v + d % 3], v + d % 3, by omega, by go_num, rfl, by omega, by omega, R.1, R.2.1, R.2.2.1, R.2.2.2, hnn'⟩
        case measure => simp [intOf]; omega
      · go_wp2_with (at_builtin; refine wpList_append_own _ rfl _ _ 22 rfl w.heap.size 3 i0 (.int .i64 0) 1 8 Yba.underlying22 hi hz0 hz1 hz2 rfl (by decide) _ _ _ rfl (hown.alloc _) ⟨wr.heap.size, 0, none⟩ 1 1 [.int .i64 v] rfl rfl ?d1 ?d2 ?d3 ?d4 ?d5 ?_)
        case d1 => exact cell_one_new _ _ _
        case d2 => intro u hu; simp at hu; subst hu; rfl
        case d3 => unfold maxLen; omega
        case d4 => omega
        case d5 => simp; omega
        intro v' w1 hown' hgrow hnil
        have hnn' : v' ≠ .slice none 0 0 := fun e => by simp [e] at hnil
        have R := rel_step (v := v) (u := v) (by omega) hasc hle hown hnx hown' hgrow
        clear hown' hgrow hown hnil
        go_wp2
        go_roundw
        case rel => exact ⟨k + 1, xs ++ [v], v, by omega, by go_num, rfl, by omega, by omega, R.1, R.2.1, R.2.2.1, R.2.2.2, hnn'⟩
        case measure => simp [intOf]; omega
    · go_wp2
      go_ret
      have e : k = n := by omega
      subst e
      exact ⟨_, xs, rfl, hnn, hasc, hown, hnx⟩

set_option maxHeartbeats 400000 in
theorem build_none (bs : Int) (a : Option Addr) (c : Nat) (w : World) (hbs : -128 ≤ bs) (hbs' : bs ≤ 127) :
    Calls Yba.prog 4 #[.int .i8 bs, .slice a 0 c] w fun e w' => ∃ v xs, e = .returned v ∧ v ≠ .slice none 0 0 ∧ Asc xs ∧ w'.ownsRow w.heap.size 3 1 v 0 (xs.map (Value.int .i64)) ∧ Below w.heap.size w w' := by
  obtain ⟨i0, hi, hz0, hz1, hz2⟩ := info_parts Yba.info3
  go_enter Yba.func4, Yba.ntmps4
  go_wp2_with (at_make; refine wpList_make_own _ rfl _ _ 22 rfl w.heap.size 3 i0 (.int .i64 0) 1 Yba.underlying22 hi hz0 hz1 _ _ _ 0 rfl rfl (by omega) ?b2 ?b3 (Nat.le_refl _) ?_)
  case b2 => omega
  case b3 => unfold maxLen; omega
  intro w0 hown0 hgrow0
  go_wp2
  go_loop [5, 16] (fun o i => o = .slice (some ⟨w.heap.size, 0, none⟩) 0 0 ∧ i = .int .i64 0) (fun _ i => (intOf i).toNat)
  case atStart => exact ⟨rfl, rfl⟩
  case round =>
    obtain ⟨rfl, rfl⟩ := hrel
    go_wp2
    go_ret
    exact ⟨_, rfl, by simp, [], trivial, hown0, (Below.refl _ _).grown hgrow0 (Nat.le_refl _) (fun k h => by cases h)⟩

/-- WHATEVER THE STEPS: n of them, at the address a. -/
theorem build_any (bs : Int) (a : Option Addr) (n c : Nat) (zs : List Int) (w : World) (hbs : -128 ≤ bs) (hbs' : bs ≤ 127) (hm : n ≤ 4096) (hzl : n ≤ zs.length)
    (h : 0 < n → ∃ b off, a = some ⟨b, off, none⟩ ∧ b < w.heap.size ∧ ∀ t, t < n → w.cell? ⟨b, off + t, none⟩ = some (.int .u8 (zs.getD t 0))) (hz : ∀ t, t < n → 0 ≤ zs.getD t 0 ∧ zs.getD t 0 ≤ 255) :
    Calls Yba.prog 4 #[.int .i8 bs, .slice a n c] w fun e w' => ∃ v xs, e = .returned v ∧ v ≠ .slice none 0 0 ∧ Asc xs ∧ w'.ownsRow w.heap.size 3 1 v n (xs.map (Value.int .i64)) ∧ Below w.heap.size w w' := by
  by_cases h0 : n = 0
  · subst h0
    exact build_none bs a c w hbs hbs'
  · obtain ⟨b, off, rfl, hb, hc⟩ := h (by omega)
    exact build_some bs b off n c zs w hbs hbs' hm hb hzl hc hz
end Go.Proofs.Ybulkdvps
