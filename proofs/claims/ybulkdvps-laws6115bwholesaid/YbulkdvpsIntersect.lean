/-
  intersect (function 7): d, then the multiset intersection of two ascending slices; d still holds what it held.
-/
import Derived.Test.YbulkdvpsAppend
import Derived.Deep.QuietTactic
import Derived.BigQuiet
namespace Go.Proofs.Ybulkdvps
open Go.RowKit

/-- What is left of a slice behind i steps: its address is the i-th cell's while anything is left. -/
def Rest (b o l c : Nat) (i : Nat) (s : Value) : Prop := ∃ p : Addr, s = .slice (some p) (l - i) (c - i) ∧ (i < l → p = ⟨b, o + i, none⟩)

/-- The length of a slice value: for the loop's measure. -/
def slen : Value → Nat
  | .slice _ n _ => n
  | _ => 0

theorem rest_next {b o l c i : Nat} (hl : l ≤ c) : Rest b o l c (i + 1) (.slice (if c - i = 1 then some ⟨b, o + i, none⟩ else some ⟨b, o + i + 1, none⟩) (l - i - 1) (c - i - 1)) := by
  by_cases h : c - i = 1
  · exact ⟨⟨b, o + i, none⟩, by rw [if_pos h, Nat.sub_sub, Nat.sub_sub], fun h2 => by omega⟩
  · exact ⟨⟨b, o + i + 1, none⟩, by rw [if_neg h, Nat.sub_sub, Nat.sub_sub], fun _ => rfl⟩

theorem rest_same {b o l c i : Nat} : Rest b o l c i (.slice (some ⟨b, o + i, none⟩) (l - i) (c - i)) := ⟨_, rfl, fun _ => rfl⟩

set_option maxHeartbeats 1600000 in
theorem intersect_some (base : Nat) (d : Value) (nd : Nat) (ds : List Int) (ba oa la ca bb ob lb cb : Nat) (A B : List Int) (w : World) (hd : w.ownsRow base 3 1 d nd (ds.map (Value.int .i64))) (hbase : base ≤ w.heap.size) (hnd : nd ≤ 1048576)
    (hla : la ≤ 4096) (hlca : la ≤ ca) (hlcb : lb ≤ cb) (hA : A.length = la) (hB : B.length = lb) (hascA : Asc A) (hascB : Asc B) (hna : some ba ≠ d.ownBlock) (hnb : some bb ≠ d.ownBlock)
    (hca : ∀ t, t < la → w.cell? ⟨ba, oa + t, none⟩ = some (.int .i64 (A.getD t 0))) (hcb : ∀ t, t < lb → w.cell? ⟨bb, ob + t, none⟩ = some (.int .i64 (B.getD t 0))) :
    Calls Yba.prog 7 #[d, .slice (some ⟨ba, oa, none⟩) la ca, .slice (some ⟨bb, ob, none⟩) lb cb] w fun e w' => ∃ v, e = .returned v ∧ Onto1 w base d nd ds w' v (inter A B) := by
  obtain ⟨i0, hi, hz0, hz1, hz2⟩ := info_parts Yba.info3
  go_enter Yba.func7, Yba.ntmps7
  go_wp2
  go_loopw [0, 1, 2] (fun out sa sb wr => ∃ (i j : Nat) (ks : List Int), i ≤ la ∧ j ≤ lb ∧ ks.length ≤ i ∧ Rest ba oa la ca i sa ∧ Rest bb ob lb cb j sb ∧ Hid (ks ++ inter (A.drop i) (B.drop j) = inter A B) ∧ Onto1 w base d nd ds wr out ks)
    (fun _ sa sb _ => slen sa + slen sb)
  case atStart => exact ⟨0, 0, [], Nat.zero_le _, Nat.zero_le _, Nat.le_refl _, ⟨_, rfl, fun _ => rfl⟩, ⟨_, rfl, fun _ => rfl⟩, rfl, Onto1.start hd⟩
  case round =>
    obtain ⟨i, j, ks, hil, hjl, hkl, ⟨pa, rfl, hpa⟩, ⟨pb, rfl, hpb⟩, hx, ho⟩ := hrel
    by_cases hia : i < la
    · by_cases hjb : j < lb
      · obtain rfl := hpa hia
        obtain rfl := hpb hjb
        have gi := ho.grown.cell (hca i hia) hna
        have gj := ho.grown.cell (hcb j hjb) hnb
        clear hpa hpb hca hcb
        obtain ⟨x, hxe⟩ : ∃ x, x = A.getD i 0 := ⟨_, rfl⟩
        obtain ⟨y, hye⟩ : ∃ y, y = B.getD j 0 := ⟨_, rfl⟩
        rw [← hxe] at gi
        rw [← hye] at gj
        have HX : Hid (A.getD i 0 = x) := hxe.symm
        have HY : Hid (B.getD j 0 = y) := hye.symm
        clear hxe hye
        have l1 : (0 : Int) < ((la - i : Nat) : Int) := by omega
        have l2 : (0 : Int) < ((lb - j : Nat) : Int) := by omega
        by_cases hxy : x < y
        · go_wp2
          go_quiet (fail)
          go_wp2
          go_roundw
          case rel => exact ⟨i + 1, j, ks, by omega, by omega, by omega, rest_next hlca, rest_same, step_lt hascB (by omega) (by omega) (by rw [HX.out, HY.out]; exact hxy) hx.out, ho.later (grown_drewN _ _)⟩
          case measure => simp only [slen]; omega
        · by_cases hyx : y < x
          · go_wp2
            go_quiet (fail)
            go_wp2
            go_quiet (fail)
            go_wp2
            go_roundw
            case rel => exact ⟨i, j + 1, ks, by omega, by omega, by omega, rest_same, rest_next hlcb, step_gt hascA (by omega) (by omega) (by rw [HX.out, HY.out]; exact hyx) hx.out, ho.later (grown_drewN _ _)⟩
            case measure => simp only [slen]; omega
          · have hsz := ho.grown.size
            go_wp2
            go_quiet (fail)
            go_wp2
            go_quiet (fail)
            go_wp2_with (at_builtin; refine wpList_append_kept _ rfl _ _ 22 rfl base 3 i0 (.int .i64 0) 8 Yba.underlying22 hi hz0 hz1 hz2 rfl _ _ _ rfl ((ho.later (grown_drewN _ _)).own.alloc _) ⟨wr.heap.size, 0, none⟩ 1 (.int .i64 x) rfl ?c1 rfl ?c3 ?c4 ?c5 ?_)
            case c1 => exact World.cell?_alloc_at (w := wr.drewN _) #[.int .i64 x] 3 wr.heap.size 0 rfl
            case c3 => unfold maxLen; omega
            case c4 => omega
            case c5 => first | omega | (simp; omega)
            intro v' w1 hown' hnn' hk'
            have hown2 : w1.ownsRow base 3 1 v' (nd + ks.length + 1) ((ds ++ ks).map (Value.int .i64) ++ [.int .i64 x]) := by simpa using hown'
            have R := ((ho.later (grown_drewN wr _)).later (World.grownBy_alloc _ _ _)).step hown2 hnn' hk'
            clear hown' hown2 hnn' hk'
            go_wp2
            go_quiet (fail)
            go_wp2
            go_roundw
            case rel => exact ⟨i + 1, j + 1, ks ++ [x], by omega, by omega, by simp; omega, rest_next hlca, rest_next hlcb, by
              have := step_eq (by omega) (by omega) (by rw [HX.out, HY.out]; omega) hx.out
              rw [HX.out] at this
              exact this, R.later (grown_drewN _ _)⟩
            case measure => simp only [slen]; omega
      · go_wp2
        go_ret
        have e := step_end (by omega) hx.out
        subst e
        exact ⟨_, rfl, ho⟩
    · go_wp2
      go_ret
      have e := step_end (by omega) hx.out
      subst e
      exact ⟨_, rfl, ho⟩
end Go.Proofs.Ybulkdvps
