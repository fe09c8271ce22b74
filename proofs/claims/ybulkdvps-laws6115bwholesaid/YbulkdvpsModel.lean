/-
  zzs6115bmodel (function 6): on an ascending a: the multiset intersection, in a row of the call's own.
-/
import Derived.Test.YbulkdvpsHas
namespace Go.Proofs.Ybulkdvps
open Go.RowKit

theorem one_int (u : Int) : ∀ x, x ∈ [Value.int .i64 u] → x.oneCell' = true := by
  intro x hx; simp at hx; subst hx; rfl

/-- One more v laid behind. -/
theorem rel_step4 {w wr w1 : World} {out v' : Value} {k : Nat} {res : List Int} {v : Int} {o : Obj}
    (hown : wr.ownsRow w.heap.size 3 1 out (res.length + k) ((res ++ List.replicate k v).map (Value.int .i64))) (hnx : Below w.heap.size w wr)
    (hown' : w1.ownsRow w.heap.size 3 1 v' (res.length + k + 1) ((res ++ List.replicate k v).map (Value.int .i64) ++ [.int .i64 v])) (hgrow : (wr.alloc o).grownBy w1 out.ownBlock) :
    w1.ownsRow w.heap.size 3 1 v' (res.length + (k + 1)) ((res ++ List.replicate (k + 1) v).map (Value.int .i64)) ∧ Below w.heap.size w w1 := by
  have hs := hnx.size
  refine ⟨?_, (hnx.alloc hs _).grown hgrow (by simp; omega) fun g hg => (hown.lt g hg).1⟩
  have e : (res ++ List.replicate (k + 1) v).map (Value.int .i64) = (res ++ List.replicate k v).map (Value.int .i64) ++ [.int .i64 v] := by
    rw [List.replicate_succ']; simp
  rw [e]
  exact hown'

set_option maxHeartbeats 1600000 in
theorem model_some (ba oa la ca bb ob lb cb : Nat) (A B : List Int) (w : World) (hla : la ≤ 4096) (hlb : lb ≤ 4096) (hA : A.length = la) (hB : B.length = lb) (hasc : Asc A) (hba : ba < w.heap.size) (hbb : bb < w.heap.size)
    (hca : ∀ t, t < la → w.cell? ⟨ba, oa + t, none⟩ = some (.int .i64 (A.getD t 0))) (hcb : ∀ t, t < lb → w.cell? ⟨bb, ob + t, none⟩ = some (.int .i64 (B.getD t 0))) :
    Calls Yba.prog 6 #[.slice (some ⟨ba, oa, none⟩) la ca, .slice (some ⟨bb, ob, none⟩) lb cb] w fun e w' => ∃ v, e = .returned v ∧ v ≠ .slice none 0 0 ∧ w'.ownsRow w.heap.size 3 1 v (inter A B).length ((inter A B).map (Value.int .i64)) ∧ Below w.heap.size w w' := by
  obtain ⟨i0, hi, hz0, hz1, hz2⟩ := info_parts Yba.info3
  go_enter Yba.func6, Yba.ntmps6
  go_wp2
  go_loopw [5, 6] (fun out si wr => ∃ (i : Nat) (res : List Int), i ≤ la ∧ si = .int .i64 i ∧ res.length ≤ i ∧ Hid (res ++ inter (A.drop i) B = inter A B) ∧ out ≠ .slice none 0 0 ∧
      wr.ownsRow w.heap.size 3 1 out res.length (res.map (Value.int .i64)) ∧ Below w.heap.size w wr)
    (fun _ si _ => la - (intOf si).toNat)
  case atStart => exact ⟨0, [], Nat.zero_le _, rfl, Nat.le_refl _, by simp [Hid], by simp, World.ownsRow_made w #[] 0 (Nat.le_refl _) (by unfold maxLen; omega) rfl, (Below.refl _ _).alloc (Nat.le_refl _) _⟩
  case round =>
    obtain ⟨i, res, hil, rfl, hrl, hx, hnn, hown, hnx⟩ := hrel
    by_cases hlt : i < la
    · have GA : Hid (∀ t, t < la → wr.cell? ⟨ba, oa + t, none⟩ = some (.int .i64 (A.getD t 0))) := fun t h => (hnx.cell (by exact hba)).trans (hca t h)
      have GB : Hid (∀ t, t < lb → wr.cell? ⟨bb, ob + t, none⟩ = some (.int .i64 (B.getD t 0))) := fun t h => (hnx.cell (by exact hbb)).trans (hcb t h)
      have gi := GA.out i hlt
      obtain ⟨v, hv⟩ : ∃ v, v = A.getD i 0 := ⟨_, rfl⟩
      rw [← hv] at gi
      have HV : Hid (A.getD i 0 = v) := hv.symm
      clear hv hca hcb
      go_wp2
      go_loop [8, 6] (fun sc si => ∃ c : Nat, i + c ≤ la ∧ sc = .int .i64 c ∧ si = .int .i64 ((i + c : Nat) : Int) ∧ Hid (∀ t, t < c → A.getD (i + t) 0 = v)) (fun sc _ => la - (intOf sc).toNat)
      case atStart => exact ⟨0, by omega, rfl, rfl, fun t ht => by omega⟩
      case round =>
        obtain ⟨c, hc, rfl, rfl, Hall⟩ := hrel
        by_cases hmore : i + c < la ∧ A.getD (i + c) 0 = v
        · obtain ⟨h1, h2⟩ := hmore
          have gc := GA.out (i + c) h1
          rw [h2] at gc
          have H2 : Hid (A.getD (i + c) 0 = v) := h2
          clear h2
          go_wp2
          go_round
          case rel => exact ⟨c + 1, by omega, by go_num, by go_num, fun t ht => by
            by_cases e : t = c
            · rw [e]; exact H2.out
            · exact Hall.out t (by omega)⟩
          case measure => simp [intOf]; omega
        · have Hn : Hid (¬ (i + c < A.length ∧ A.getD (i + c) 0 = v)) := by rw [hA]; exact hmore
          obtain ⟨u, hu⟩ : ∃ u, u = A.getD (i + c) 0 := ⟨_, rfl⟩
          have gc : i + c < la → wr.cell? ⟨ba, oa + (i + c), none⟩ = some (.int .i64 u) := fun h => by rw [hu]; exact GA.out (i + c) h
          have hc1 : 1 ≤ c := by
            by_cases e : c = 0
            · subst e; exact absurd ⟨hlt, HV.out⟩ hmore
            · omega
          have huv : i + c < la → (u == v) = false := fun h => by
            have : u ≠ v := fun e => hmore ⟨h, by rw [← hu, e]⟩
            simpa using this
          clear hmore hu
          by_cases hend : i + c < la
          all_goals
            first | (have gc' := gc hend; have huv' := huv hend; clear gc huv) | clear gc huv
            go_wp2
            go_loop [9, 41] (fun sb sk => ∃ k : Nat, k ≤ lb ∧ sk = .int .i64 k ∧ sb = .int .i64 ((B.take k).count v)) (fun _ sk => lb - (intOf sk).toNat)
            case atStart => exact ⟨0, Nat.zero_le _, rfl, by simp⟩
            case round =>
              obtain ⟨k, hk, rfl, rfl⟩ := hrel
              have hcl := count_take_le B v k
              by_cases hkl : k < lb
              · have gk := GB.out k hkl
                have hs := count_take B v k (by omega)
                obtain ⟨y, hy⟩ : ∃ y, y = B.getD k 0 := ⟨_, rfl⟩
                rw [← hy] at gk hs
                have HS : Hid ((B.take (k + 1)).count v = (B.take k).count v + if y = v then 1 else 0) := hs
                clear hy hs
                by_cases hyv : y = v
                · subst hyv
                  go_wp2
                  go_round
                  case rel => exact ⟨k + 1, by omega, by go_num, by rw [HS.out]; simp⟩
                  case measure => simp [intOf]; omega
                · have hyv' : (y == v) = false := by simpa using hyv
                  go_wp2
                  go_round
                  case rel => exact ⟨k + 1, by omega, by go_num, by rw [HS.out]; simp [hyv]⟩
                  case measure => simp [intOf]; omega
              · obtain ⟨cb, hcb⟩ : ∃ cb, cb = B.count v := ⟨_, rfl⟩
                have hcb2 : (B.take k).count v = cb := by rw [List.take_of_length_le (by omega), hcb]
                rw [hcb2] at hcl
                have HC : Hid (B.count v = cb) := hcb.symm
                rw [hcb2]
                clear hcb hcb2
                by_cases hm : cb < c
                · have EM : Hid (min c cb = cb) := by unfold Hid; omega
                  go_wp2
                  go_loopw [5, 13] (fun out sk wq => ∃ k : Nat, k ≤ cb ∧ sk = .int .i64 k ∧ out ≠ .slice none 0 0 ∧ wq.ownsRow w.heap.size 3 1 out (res.length + k) ((res ++ List.replicate k v).map (Value.int .i64)) ∧ Below w.heap.size w wq) (fun _ sk _ => cb - (intOf sk).toNat)
                  case atStart => exact ⟨0, Nat.zero_le _, rfl, hnn, by simpa using hown, hnx⟩
                  case round =>
                    obtain ⟨k, hk, rfl, hnn4, hown4, hnx4⟩ := hrel
                    by_cases hk4 : k < cb
                    · go_wp2_with (at_builtin; refine wpList_append_own _ rfl _ _ 22 rfl w.heap.size 3 i0 (.int .i64 0) 1 8 Yba.underlying22 hi hz0 hz1 hz2 rfl (by decide) _ _ _ rfl (hown4.alloc _) ⟨wr.heap.size, 0, none⟩ 1 1 [.int .i64 v] rfl rfl (cell_one_new _ _ _) (one_int _) (by unfold maxLen; omega) (by omega) (by have := hnx4.size; simp; omega) ?_; intro v' w1 hown' hgrow hnil)
                      have R := rel_step4 hown4 hnx4 hown' hgrow
                      have hnn' : v' ≠ .slice none 0 0 := fun e => by simp [e] at hnil
                      clear hown' hgrow hown4 hnil
                      go_wp2
                      go_roundw
                      case rel => exact ⟨k + 1, by omega, by go_num, hnn', R.1, R.2⟩
                      case measure => simp [intOf]; omega
                    · have ek : k = cb := by omega
                      rw [ek] at hown4
                      clear ek
                      go_wp2
                      go_roundw
                      case rel => exact ⟨i + c, res ++ List.replicate cb v, hc, rfl, by simp; omega, by
                        have := step_run hasc (by omega) HV.out Hall.out Hn.out hx.out
                        rw [HC.out, EM.out] at this
                        exact this, hnn4, by simpa using hown4, hnx4⟩
                      case measure => simp [intOf]; omega
                · have EM : Hid (min c cb = c) := by unfold Hid; omega
                  go_wp2
                  go_loopw [5, 13] (fun out sk wq => ∃ k : Nat, k ≤ c ∧ sk = .int .i64 k ∧ out ≠ .slice none 0 0 ∧ wq.ownsRow w.heap.size 3 1 out (res.length + k) ((res ++ List.replicate k v).map (Value.int .i64)) ∧ Below w.heap.size w wq) (fun _ sk _ => c - (intOf sk).toNat)
                  case atStart => exact ⟨0, Nat.zero_le _, rfl, hnn, by simpa using hown, hnx⟩
                  case round =>
                    obtain ⟨k, hk, rfl, hnn4, hown4, hnx4⟩ := hrel
                    by_cases hk4 : k < c
                    · go_wp2_with (at_builtin; refine wpList_append_own _ rfl _ _ 22 rfl w.heap.size 3 i0 (.int .i64 0) 1 8 Yba.underlying22 hi hz0 hz1 hz2 rfl (by decide) _ _ _ rfl (hown4.alloc _) ⟨wr.heap.size, 0, none⟩ 1 1 [.int .i64 v] rfl rfl (cell_one_new _ _ _) (one_int _) (by unfold maxLen; omega) (by omega) (by have := hnx4.size; simp; omega) ?_; intro v' w1 hown' hgrow hnil)
                      have R := rel_step4 hown4 hnx4 hown' hgrow
                      have hnn' : v' ≠ .slice none 0 0 := fun e => by simp [e] at hnil
                      clear hown' hgrow hown4 hnil
                      go_wp2
                      go_roundw
                      case rel => exact ⟨k + 1, by omega, by go_num, hnn', R.1, R.2⟩
                      case measure => simp [intOf]; omega
                    · have ek : k = c := by omega
                      rw [ek] at hown4
                      clear ek
                      go_wp2
                      go_roundw
                      case rel => exact ⟨i + c, res ++ List.replicate c v, hc, rfl, by simp; omega, by
                        have := step_run hasc (by omega) HV.out Hall.out Hn.out hx.out
                        rw [HC.out, EM.out] at this
                        exact this, hnn4, by simpa using hown4, hnx4⟩
                      case measure => simp [intOf]; omega
    · go_wp2
      go_ret
      have e : i = la := by omega
      have hfin : res = inter A B := by
        have := hx.out
        rw [List.drop_eq_nil_of_le (by omega), inter_nil_left, List.append_nil] at this
        exact this
      subst hfin
      exact ⟨_, rfl, hnn, hown, hnx⟩
end Go.Proofs.Ybulkdvps
