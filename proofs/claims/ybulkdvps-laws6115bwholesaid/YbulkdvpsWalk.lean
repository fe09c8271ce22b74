/-
  THE LAW's OWN WALK (function 3).
-/
import Derived.Test.YbulkdvpsLaw
namespace Go.Proofs.Ybulkdvps
open Go.RowKit

theorem own_below {w w' : World} {base n B : Nat} {v : Value} {xs : List Value} (h : w.ownsRow base 3 1 v n xs) (hb : Below B w w') (hB : w.heap.size ≤ B) : w'.ownsRow base 3 1 v n xs := by
  refine ⟨h.1, ?_⟩
  rcases h.2 with h2 | ⟨g, cap, cur, hv, hg, hh, r⟩
  · exact .inl h2
  · exact .inr ⟨g, cap, cur, hv, hg, (hb.block g (by have := (Array.getElem?_eq_some_iff.1 hh).1; omega)).trans hh, r⟩

theorem Has.drewN {w : World} {a : Option Addr} {n : Nat} {xs : List Int} (h : Has w a n xs) (q : Nat) : Has (w.drewN q) a n xs := h.below (below_drewN (Below.refl _ _) q)

theorem Has.front {w : World} {a : Option Addr} {n m : Nat} {xs ys : List Int} (h : Has w a (n + m) (xs ++ ys)) (hn : xs.length = n) : Has w a n xs :=
  ⟨hn, fun h0 => by
    obtain ⟨b, off, e, h2, h3⟩ := h.2 (by omega)
    refine ⟨b, off, e, h2, fun t ht => ?_⟩
    rw [h3 t (by omega)]
    simp [List.getElem?_append_left (show t < xs.length by omega)]⟩

theorem Has.back {w : World} {g n m : Nat} {xs ys : List Int} (h : Has w (some ⟨g, 0, none⟩) (n + m) (xs ++ ys)) (hn : xs.length = n) : Has w (some ⟨g, n, none⟩) m ys :=
  ⟨by have := h.1; simp at this; omega, fun h0 => by
    obtain ⟨b, off, e, h2, h3⟩ := h.2 (by omega)
    cases e
    refine ⟨g, n, rfl, h2, fun t ht => ?_⟩
    have := h3 (n + t) (by omega)
    rw [Nat.zero_add] at this
    rw [this]
    simp [List.getElem?_append_right (show xs.length ≤ n + t by omega), show n + t - xs.length = t by omega]⟩

theorem Has.none {w : World} {a : Option Addr} {n : Nat} {xs : List Int} (h : xs.length = n) (h0 : n = 0) : Has w a n xs := ⟨h, fun hn => by omega⟩

/-- One of the three is too long: true at once. -/
theorem law_long (a0 a2 a4 : Option Addr) (n0 c0 n2 c2 n4 c4 : Nat) (b1 b3 : Int) (w : World) (h : 1048576 < n0 ∨ 4096 < n2 ∨ 4096 < n4) :
    Calls Yba.prog 3 #[.slice a0 n0 c0, .int .i8 b1, .slice a2 n2 c2, .int .i8 b3, .slice a4 n4 c4] w fun e w' => e = .returned (.bool true) ∧ Below w.heap.size w w' := by
  by_cases h0 : (1048576 : Int) < (n0 : Int)
  · go_enter Yba.func3, Yba.ntmps3
    go_wp2
    go_ret
    exact ⟨rfl, Below.refl _ _⟩
  · by_cases h2 : (4096 : Int) < (n2 : Int)
    · go_enter Yba.func3, Yba.ntmps3
      go_wp2
      go_ret
      exact ⟨rfl, Below.refl _ _⟩
    · have h4 : (4096 : Int) < (n4 : Int) := by omega
      go_enter Yba.func3, Yba.ntmps3
      go_wp2
      go_ret
      exact ⟨rfl, Below.refl _ _⟩

set_option maxHeartbeats 1600000 in
theorem law_short (a0 a2 a4 : Option Addr) (n0 c0 n2 c2 n4 c4 : Nat) (b1 b3 : Int) (D z2 z4 : List Int) (w : World) (h0 : n0 ≤ 1048576) (h2 : n2 ≤ 4096) (h4 : n4 ≤ 4096)
    (hb1 : -128 ≤ b1) (hb1' : b1 ≤ 127) (hb3 : -128 ≤ b3) (hb3' : b3 ≤ 127) (hd : Has w a0 n0 D) (hd0 : a0 = none → c0 = 0)
    (hz2 : n2 ≤ z2.length) (hs2 : 0 < n2 → ∃ b off, a2 = some ⟨b, off, none⟩ ∧ b < w.heap.size ∧ ∀ t, t < n2 → w.cell? ⟨b, off + t, none⟩ = some (.int .u8 (z2.getD t 0))) (hr2 : ∀ t, t < n2 → 0 ≤ z2.getD t 0 ∧ z2.getD t 0 ≤ 255)
    (hz4 : n4 ≤ z4.length) (hs4 : 0 < n4 → ∃ b off, a4 = some ⟨b, off, none⟩ ∧ b < w.heap.size ∧ ∀ t, t < n4 → w.cell? ⟨b, off + t, none⟩ = some (.int .u8 (z4.getD t 0))) (hr4 : ∀ t, t < n4 → 0 ≤ z4.getD t 0 ∧ z4.getD t 0 ≤ 255) :
    Calls Yba.prog 3 #[.slice a0 n0 c0, .int .i8 b1, .slice a2 n2 c2, .int .i8 b3, .slice a4 n4 c4] w fun e w' => e = .returned (.bool true) ∧ Below w.heap.size w w' := by
  have q22 := fun (w : World) (a : Option Addr) (n c n' c' : Nat) => Lib.run_eql_slice_nil (P := Yba.prog) w 22 3 a n c n' c' Yba.underlying22
  have t0 : ¬ (1048576 : Int) < (n0 : Int) := by omega
  have t2 : ¬ (4096 : Int) < (n2 : Int) := by omega
  have t4 : ¬ (4096 : Int) < (n4 : Int) := by omega
  go_enter Yba.func3, Yba.ntmps3
  go_wp2_with fail
  refine (build_row b1 a2 n2 c2 z2 w hb1 hb1' h2 hz2 hs2 hr2).mono ?_
  rintro e w1 ⟨ga, ca, A, rfl, ascA, lca, ga0, ga1, HA, B1⟩
  clear hs2 hr2
  go_wp2_with fail
  refine (build_row b3 a4 n4 c4 z4 w1 hb3 hb3' h4 hz4 ?_ hr4).mono ?_
  · intro hn
    obtain ⟨b, off, e, hb, hc⟩ := hs4 hn
    exact ⟨b, off, e, Nat.lt_of_lt_of_le hb B1.size, fun t ht => (B1.cell (p := ⟨b, off + t, none⟩) hb).trans (hc t ht)⟩
  rintro e w2 ⟨gb, cb, B, rfl, ascB, lcb, gb0, gb1, HB, B2⟩
  clear hs4 hr4
  have HA2 := HA.below B2 (Nat.le_refl _)
  have S1 := B1.size
  have S2 := B2.size
  go_wp2_with fail
  refine (clone_row (some ⟨ga, 0, none⟩) n2 ca A w2 (fun e => by cases e) (by omega) (HA2.has S2)).mono ?_
  rintro e w3 ⟨aac, cac, rfl, _, OAC, B3⟩
  have S3 := B3.size
  have HA3 := HA2.below B3 S2
  have HB3 := HB.below B3 (Nat.le_refl _)
  have HAC := HasIn.ofOwn OAC
  clear HA HA2 HB OAC
  go_wp2_with fail
  refine (clone_row (some ⟨gb, 0, none⟩) n4 cb B w3 (fun e => by cases e) (by omega) (HB3.has S3)).mono ?_
  rintro e w4 ⟨abc, cbc, rfl, _, OBC, B4⟩
  have S4 := B4.size
  have HA4 := HA3.below B4 (by omega)
  have HB4 := HB3.below B4 (by omega)
  have HAC4 := HAC.below B4 (by omega)
  have HBC := HasIn.ofOwn OBC
  have BW4 : Below w.heap.size w w4 := ((B1.trans (B2.mono S1)).trans (B3.mono (by omega))).trans (B4.mono (by omega))
  clear HA3 HB3 HAC OBC
  go_wp2_with fail
  refine (clone_row a0 n0 c0 D w4 hd0 h0 (hd.below BW4)).mono ?_
  rintro e w5 ⟨ad, cd, rfl, hdn, OD, B5⟩
  have S5 := B5.size
  have HA5 := HA4.below B5 (by omega)
  have HB5 := HB4.below B5 (by omega)
  have HAC5 := HAC4.below B5 (by omega)
  have HBC5 := HBC.below B5 (by omega)
  have BW5 : Below w.heap.size w w5 := BW4.trans (B5.mono (by omega))
  clear HA4 HB4 HAC4 HBC
  go_wp2_with fail
  refine (clone_row a0 n0 c0 D w5 hd0 h0 (hd.below BW5)).mono ?_
  rintro e w6 ⟨adc, cdc, rfl, _, ODC, B6⟩
  have S6 := B6.size
  have HA6 := HA5.below B6 (by omega)
  have HB6 := HB5.below B6 (by omega)
  have HAC6 := HAC5.below B6 (by omega)
  have HBC6 := HBC5.below B6 (by omega)
  have HDC := HasIn.ofOwn ODC
  have BW6 : Below w.heap.size w w6 := BW5.trans (B6.mono (by omega))
  clear HA5 HB5 HAC5 HBC5 ODC
  go_wp2_with fail
  refine (model_row ga gb n2 ca n4 cb A B w6 h2 h4 ascA (by omega) (by omega) (HA6.has (by omega)) (HB6.has (by omega))).mono ?_
  rintro e w7 ⟨gw, cw, rfl, HW, B7⟩
  have S7 := B7.size
  have HA7 := HA6.below B7 (by omega)
  have HB7 := HB6.below B7 (by omega)
  have HAC7 := HAC6.below B7 (by omega)
  have HBC7 := HBC6.below B7 (by omega)
  have HDC7 := HDC.below B7 (by omega)
  have OD7 := own_below (own_below OD B6 (Nat.le_refl _)) B7 (Nat.le_refl _)
  have BW7 : Below w.heap.size w w7 := BW6.trans (B7.mono (by omega))
  have hI := inter_le A B
  have hAl := HA6.1
  have OL := OD.lt
  clear HA6 HB6 HAC6 HBC6 HDC
  go_wp2_with fail
  refine (intersect_row w4.heap.size ad n0 cd D ga gb n2 ca n4 cb A B w7 OD7 (by omega) h0 h2 lca lcb ascA ascB (by omega) (by omega) (HA7.has (by omega)) (HB7.has (by omega))).mono ?_
  rintro e w8 ⟨ar, cr, rfl, lcr, lcm, hrn, hrg, HR, HD8, G8, B8⟩
  have S8 := B8.size
  have HA8 := HA7.grown G8 (fun g hg => by have := OL g hg; omega)
  have HB8 := HB7.grown G8 (fun g hg => by have := OL g hg; omega)
  have HAC8 := HAC7.grown G8 (fun g hg => by have := OL g hg; omega)
  have HBC8 := HBC7.grown G8 (fun g hg => by have := OL g hg; omega)
  have HDC8 := HDC7.grown G8 (fun g hg => by have := OL g hg; omega)
  have HW8 := HW.grown G8 (fun g hg => by have := OL g hg; omega)
  have BW8 : Below w.heap.size w w8 := BW7.trans (B8.mono (by omega))
  clear HA7 HB7 HAC7 HBC7 HDC7 HW OD7 OD G8 OL B1 B2 B3 B4 B5 B6 B7 B8 BW4 BW5 BW6 BW7 hd hd0
  obtain ⟨I, hIe⟩ : ∃ I, I = inter A B := ⟨_, rfl⟩
  rw [← hIe] at hI hrn HR HW8 lcr ⊢
  clear hIe
  obtain ⟨m, hm⟩ : ∃ m, m = I.length := ⟨_, rfl⟩
  have HM : Hid (I.length = m) := hm.symm
  rw [← hm] at hI hrn HR HW8 lcr ⊢
  clear hm
  have hDl := HD8.1
  unfold maxLen at lcm
  cases ad with
  | none =>
    cases ar with
    | none =>
      have hmz : m ≤ 0 := by have := (hrn.1 rfl).2; omega
      have hm0 : ((m : Int) == 0) = true := by simp; omega
      clear hrn hrg hdn
      go_wp2_with fail
      refine (equal_any _ _ n0 _ _ D w8 (by unfold maxLen; omega) (HR.front hDl) (HDC8.has (by omega))).mono ?_
      rintro e w9 ⟨rfl, q1, rfl⟩
      by_cases hcr : cr - n0 = 0
      all_goals
        go_wp2_with fail
        refine (equal_any _ _ m _ _ I (w8.drewN q1) (by unfold maxLen; omega) (by first | exact (Has.none HM.out (by omega)) | exact (HR.back hDl).drewN _) ((HW8.has (by omega)).drewN _)).mono ?_
        rintro e w9 ⟨rfl, q2, rfl⟩
        go_wp2_with fail
        refine (equal_any _ _ n0 _ _ D _ (by unfold maxLen; omega) (HD8.drewN _) ((HDC8.has (by omega)).drewN _)).mono ?_
        rintro e w9 ⟨rfl, q3, rfl⟩
        go_wp2_with fail
        refine (equal_any _ _ n2 _ _ A _ (by unfold maxLen; omega) ((HA8.has (by omega)).drewN _) ((HAC8.has (by omega)).drewN _)).mono ?_
        rintro e w9 ⟨rfl, q4, rfl⟩
        go_wp2_with fail
        refine (equal_any _ _ n4 _ _ B _ (by unfold maxLen; omega) ((HB8.has (by omega)).drewN _) ((HBC8.has (by omega)).drewN _)).mono ?_
        rintro e w9 ⟨rfl, q5, rfl⟩
        go_wp2_with fail
        go_ret
        exact ⟨rfl, below_drewN BW8 _⟩
    | some p =>
      have hm0 : ((m : Int) == 0) = false := by
        have : m ≠ 0 := fun e => by have := hrn.2 ⟨rfl, e⟩; cases this
        simp; omega
      obtain ⟨gr, rfl⟩ := hrg p rfl
      clear hrn hrg hdn
      go_wp2_with fail
      refine (equal_any _ _ n0 _ _ D w8 (by unfold maxLen; omega) (HR.front hDl) (HDC8.has (by omega))).mono ?_
      rintro e w9 ⟨rfl, q1, rfl⟩
      by_cases hcr : cr - n0 = 0
      all_goals
        go_wp2_with fail
        refine (equal_any _ _ m _ _ I (w8.drewN q1) (by unfold maxLen; omega) (by first | exact (Has.none HM.out (by omega)) | exact (HR.back hDl).drewN _) ((HW8.has (by omega)).drewN _)).mono ?_
        rintro e w9 ⟨rfl, q2, rfl⟩
        go_wp2_with fail
        refine (equal_any _ _ n0 _ _ D _ (by unfold maxLen; omega) (HD8.drewN _) ((HDC8.has (by omega)).drewN _)).mono ?_
        rintro e w9 ⟨rfl, q3, rfl⟩
        go_wp2_with fail
        refine (equal_any _ _ n2 _ _ A _ (by unfold maxLen; omega) ((HA8.has (by omega)).drewN _) ((HAC8.has (by omega)).drewN _)).mono ?_
        rintro e w9 ⟨rfl, q4, rfl⟩
        go_wp2_with fail
        refine (equal_any _ _ n4 _ _ B _ (by unfold maxLen; omega) ((HB8.has (by omega)).drewN _) ((HBC8.has (by omega)).drewN _)).mono ?_
        rintro e w9 ⟨rfl, q5, rfl⟩
        go_wp2_with fail
        go_ret
        exact ⟨rfl, below_drewN BW8 _⟩
  | some p2 =>
    cases ar with
    | none => exact absurd (hrn.1 rfl).1 (by simp)
    | some p =>
      obtain ⟨gr, rfl⟩ := hrg p rfl
      clear hrn hrg hdn
      go_wp2_with fail
      refine (equal_any _ _ n0 _ _ D w8 (by unfold maxLen; omega) (HR.front hDl) (HDC8.has (by omega))).mono ?_
      rintro e w9 ⟨rfl, q1, rfl⟩
      by_cases hcr : cr - n0 = 0
      all_goals
        go_wp2_with fail
        refine (equal_any _ _ m _ _ I (w8.drewN q1) (by unfold maxLen; omega) (by first | exact (Has.none HM.out (by omega)) | exact (HR.back hDl).drewN _) ((HW8.has (by omega)).drewN _)).mono ?_
        rintro e w9 ⟨rfl, q2, rfl⟩
        go_wp2_with fail
        refine (equal_any _ _ n0 _ _ D _ (by unfold maxLen; omega) (HD8.drewN _) ((HDC8.has (by omega)).drewN _)).mono ?_
        rintro e w9 ⟨rfl, q3, rfl⟩
        go_wp2_with fail
        refine (equal_any _ _ n2 _ _ A _ (by unfold maxLen; omega) ((HA8.has (by omega)).drewN _) ((HAC8.has (by omega)).drewN _)).mono ?_
        rintro e w9 ⟨rfl, q4, rfl⟩
        go_wp2_with fail
        refine (equal_any _ _ n4 _ _ B _ (by unfold maxLen; omega) ((HB8.has (by omega)).drewN _) ((HBC8.has (by omega)).drewN _)).mono ?_
        rintro e w9 ⟨rfl, q5, rfl⟩
        go_wp2_with fail
        go_ret
        exact ⟨rfl, below_drewN BW8 _⟩
end Go.Proofs.Ybulkdvps
