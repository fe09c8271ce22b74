/-
  LawS6121AWhole (3): true, and nothing that was there has turned.
-/
import Derived.Test.YbulkdvsySame
import Derived.Test.YbulkdvsyLike
import Derived.Test.YbulkdvsyScrib
import Derived.Test.YbulkdvsyCopy
import Derived.Test.YbulkdvsyClone
namespace Go.Proofs.Ybulkdvsy
open Go.RowKit

/-- What a clone gives is what the scribbling asks. -/
theorem Is.own : ∀ {n L : Nat} {w : World} {c : Qs} {T : Tree n}, Is n L true w c (norm n T) → Ok n T → Own n L 140737488355328 w c T
  | 0, _, _, _, _, h, _ => h
  | n + 1, L, w, c, (t, (nv, ss), (ni, ts)), h, hO => by
    obtain ⟨_, _, h3, h4, _, h6, h7⟩ := h
    obtain ⟨_, _, o3, o4⟩ := hO
    rw [List.length_map] at h6
    refine ⟨h3, fun i hi => ?_, h6, fun i hi => ?_⟩
    · obtain ⟨b, o, e, hb, hf, hc⟩ := h4 i hi
      exact ⟨b, o, ss[i], e, hb, hf rfl, hc, o3 i hi⟩
    · obtain ⟨b, o, d, e, hb, hf, hc, hI⟩ := h7 i (by simpa using hi)
      rw [List.getElem_map] at hI
      exact ⟨b, o, d, e, hb, hf rfl, hc, Is.own hI (o4 i hi)⟩

set_option maxHeartbeats 1000000 in
set_option maxRecDepth 100000 in
theorem law_walk (n : Nat) (T : Tree n) (q : Qs) (w : World) (hO : Ok n T) (hI : Is n 0 false w q T) :
    Calls Yba.prog 3 #[q.val] w fun e w' => e = .returned (.bool true) ∧ Below w.heap.size w w' := by
  have HO : Hid (Ok n T) := hO
  have HI : Hid (Is n 0 false w q T) := hI
  clear hO hI
  have HV : Hid (q.val = .agg #[.int .i64 q.t, .slice q.va q.vl q.vc, .slice q.ia q.il q.ic]) := rfl
  rw [HV.out]
  go_enter Yba.func3, Yba.ntmps3
  go_wp2_with fail
  obtain ⟨N, hN⟩ : ∃ N, N = w.heap.size := ⟨_, rfl⟩
  obtain ⟨W1, hW1⟩ : ∃ W1, W1 = (w.alloc (.cells #[.int .i64 q.t, .slice q.va q.vl q.vc, .slice q.ia q.il q.ic] 25)).alloc (.cells #[.int .i64 65536] 3) := ⟨_, rfl⟩
  rw [← hW1]
  have A1 : At W1 w.heap.size 0 q := by
    rw [hW1]
    exact (boxed w q).below ((Below.refl _ _).alloc (Nat.le_refl _) _)
  have B1 : Below w.heap.size w W1 := by rw [hW1]; exact ((Below.refl _ _).alloc (Nat.le_refl _) _).alloc (by rw [size_alloc]; omega) _
  have s1 : W1.heap.size = w.heap.size + 2 := by rw [hW1, size_alloc, size_alloc]
  have hblk : W1.heap[w.heap.size + 1]? = some (.cells #[.int .i64 65536] 3 (0, 0)) := by
    have := Go.Deep.blk_alloc_new (w.alloc (.cells #[.int .i64 q.t, .slice q.va q.vl q.vc, .slice q.ia q.il q.ic] 25)) (.cells #[.int .i64 65536] 3)
    rw [size_alloc] at this
    rw [hW1]
    exact this
  have c1 : W1.cell? ⟨w.heap.size + 1, 0, none⟩ = some (.int .i64 ((65536 : Nat) : Int)) := by
    rw [cell_of_row W1 _ 0 _ 3 _ hblk]; rfl
  have f1 : W1.frozen? ⟨w.heap.size + 1, 0, none⟩ = false := by simp [World.frozen?, hblk]
  have HFC := fits_all n q T w W1 (w.heap.size + 1) 65536 HO.out HI.out B1 (by omega) c1 f1 (Nat.le_refl _)
  rw [HV.out] at HFC
  clear hW1 hblk c1 f1
  rw [← hN] at A1 B1 s1 HFC ⊢
  have HNw : Hid (w.heap.size = N) := hN.symm
  clear hN
  refine HFC.mono ?_
  clear HFC
  rintro e w2 ⟨o2, rfl | ⟨rfl, hcnt, _, _⟩⟩
  · have B2 : Below N w w2 := Below.only B1 HNw.out o2 (by omega)
    have HB2 : Hid (Below N w w2) := B2
    clear A1 B1 s1 o2 B2
    go_wp2
    go_ret
    rw [HNw.out]
    exact ⟨rfl, HB2.out⟩
  · have B2 : Below w.heap.size w w2 := by rw [HNw.out]; exact Below.only B1 HNw.out o2 (by omega)
    have A2 : At w2 N 0 q := o2.at (by omega) A1
    have HCN : Hid (count n T ≤ 65536) := hcnt
    have HC := copy_all n q T w2 hcnt (HI.out.below B2)
    rw [HV.out] at HC
    have HA2 : Hid (At w2 N 0 q) := A2
    have HB2 : Hid (Below w.heap.size w w2) := B2
    obtain ⟨a1, a2, a3⟩ := A2
    clear A1 B1 s1 o2 hcnt B2
    have HCC : Hid (Calls Yba.prog 5 #[.agg #[.int .i64 q.t, .slice q.va q.vl q.vc, .slice q.ia q.il q.ic]] w2 fun e w' => ∃ c : Qs, e = .returned c.val ∧ Is n w2.heap.size true w' c T ∧ Below w2.heap.size w2 w') := HC
    clear HC
    go_wp2_with fail
    refine HCC.out.mono ?_
    rintro e w3 ⟨⟨t1, va1, vl1, vc1, ia1, il1, ic1⟩, rfl, i3, b3⟩
    simp only [Qs.val]
    clear a1 a2 a3 HCC
    -- want is laid in a new block
    have hN3 : N < w3.heap.size := Nat.lt_of_lt_of_le HA2.out.lt b3.size
    have A4 : At (w3.alloc (.cells #[.int .i64 t1, .slice va1 vl1 vc1, .slice ia1 il1 ic1] 25)) N 0 q := (HA2.out.below b3).alloc _
    obtain ⟨W4, hW4⟩ : ∃ W4, W4 = w3.alloc (.cells #[.int .i64 t1, .slice va1 vl1 vc1, .slice ia1 il1 ic1] 25) := ⟨_, rfl⟩
    have D4 : At W4 w3.heap.size 0 ⟨t1, va1, vl1, vc1, ia1, il1, ic1⟩ := by rw [hW4]; exact boxed w3 ⟨t1, va1, vl1, vc1, ia1, il1, ic1⟩
    have b4 : Below w3.heap.size w3 W4 := by rw [hW4]; exact (Below.refl _ _).alloc (Nat.le_refl _) _
    have s4 : W4.heap.size = w3.heap.size + 1 := by rw [hW4, size_alloc]
    have B4 : Below w.heap.size w W4 := HB2.out.trans ((b3.trans (b4.mono b3.size)).mono HB2.out.size)
    have HW4 : Hid (W4 = w3.alloc (.cells #[.int .i64 t1, .slice va1 vl1 vc1, .slice ia1 il1 ic1] 25)) := hW4
    have I4 : Is n w2.heap.size true W4 ⟨t1, va1, vl1, vc1, ia1, il1, ic1⟩ T := i3.below b4
    have H4 : Hid (At W4 N 0 q ∧ At W4 w3.heap.size 0 ⟨t1, va1, vl1, vc1, ia1, il1, ic1⟩ ∧ Below w.heap.size w W4 ∧ W4.heap.size = w3.heap.size + 1 ∧ Is n w2.heap.size true W4 ⟨t1, va1, vl1, vc1, ia1, il1, ic1⟩ T) := ⟨by rw [hW4]; exact A4, D4, B4, s4, I4⟩
    have HC := clone_all n q T W4 HCN.out (HI.out.below B4)
    rw [HV.out] at HC
    have HCL : Hid (Calls Yba.prog 6 #[.agg #[.int .i64 q.t, .slice q.va q.vl q.vc, .slice q.ia q.il q.ic]] W4 fun e w' => ∃ c : Qs, e = .returned c.val ∧ Is n W4.heap.size true w' c (norm n T) ∧ Below W4.heap.size W4 w') := HC
    clear HC hW4 D4 b4 s4 B4 I4 i3 b3
    obtain ⟨a1, a2, a3⟩ := A4
    go_wp2_with fail
    rw [← HW4.out]
    refine HCL.out.mono ?_
    rintro e w5 ⟨⟨t2, va2, vl2, vc2, ia2, il2, ic2⟩, rfl, i5, b5⟩
    simp only [Qs.val]
    clear a1 a2 a3 HCL HW4
    -- got is laid in a new block
    obtain ⟨V, hV⟩ : ∃ V, V = w3.heap.size := ⟨_, rfl⟩
    rw [← hV] at H4 ⊢
    clear hV hN3
    obtain ⟨h41, h42, h43, h44, h45⟩ := H4.out
    obtain ⟨W6, hW6⟩ : ∃ W6, W6 = w5.alloc (.cells #[.int .i64 t2, .slice va2 vl2 vc2, .slice ia2 il2 ic2] 25) := ⟨_, rfl⟩
    have b6 : Below w5.heap.size w5 W6 := by rw [hW6]; exact (Below.refl _ _).alloc (Nat.le_refl _) _
    have B6 : Below W4.heap.size W4 W6 := b5.trans (b6.mono b5.size)
    have D6 : At W6 w5.heap.size 0 ⟨t2, va2, vl2, vc2, ia2, il2, ic2⟩ := by rw [hW6]; exact boxed w5 ⟨t2, va2, vl2, vc2, ia2, il2, ic2⟩
    have R6 : RowOf W6 w5.heap.size 3 := by rw [hW6]; exact row_alloc w5 _
    have I6 : Is n W4.heap.size true W6 ⟨t2, va2, vl2, vc2, ia2, il2, ic2⟩ (norm n T) := i5.below b6
    have HW6 : Hid (W6 = w5.alloc (.cells #[.int .i64 t2, .slice va2 vl2 vc2, .slice ia2 il2 ic2] 25)) := hW6
    have hG : W4.heap.size ≤ w5.heap.size := b5.size
    have A6 := h41.below B6
    have E6 := h42.below B6
    have HC := same_all n q ⟨t1, va1, vl1, vc1, ia1, il1, ic1⟩ T W6 HCN.out (HI.out.below (h43.trans (B6.mono h43.size))) ((h45.below B6).weaken (Nat.zero_le _) (fun h => by cases h))
    rw [HV.out] at HC
    simp only [Qs.val] at HC
    have HC7 : Hid (Calls Yba.prog 7 #[.agg #[.int .i64 q.t, .slice q.va q.vl q.vc, .slice q.ia q.il q.ic], .agg #[.int .i64 t1, .slice va1 vl1 vc1, .slice ia1 il1 ic1]] W6 fun e w' => e = .returned (.bool true) ∧ Below W6.heap.size W6 w') := HC
    have H6 : Hid (At W6 N 0 q ∧ At W6 V 0 ⟨t1, va1, vl1, vc1, ia1, il1, ic1⟩ ∧ Below W4.heap.size W4 W6 ∧ RowOf W6 w5.heap.size 3 ∧ Is n W4.heap.size true W6 ⟨t2, va2, vl2, vc2, ia2, il2, ic2⟩ (norm n T) ∧ At W6 w5.heap.size 0 ⟨t2, va2, vl2, vc2, ia2, il2, ic2⟩) := ⟨A6, E6, B6, R6, I6, D6⟩
    obtain ⟨G, hGG⟩ : ∃ G, G = w5.heap.size := ⟨_, rfl⟩
    obtain ⟨a1, a2, a3⟩ := A6
    obtain ⟨e1, e2, e3⟩ := E6
    simp only at e1 e2 e3
    rw [hW6] at a1 a2 a3 e1 e2 e3
    clear HC hW6 b6 B6 D6 R6 I6 h41 h42 h43 h44 h45 b5 i5
    go_wp2_with fail
    rw [← HW6.out]
    refine HC7.out.mono ?_
    rintro e w7 ⟨rfl, b7⟩
    clear a1 a2 a3 e1 e2 e3 HC7 HW6
    rw [← hGG] at H6 hG ⊢
    clear hGG
    -- the clone is as want
    have D7 : At w7 G 0 ⟨t2, va2, vl2, vc2, ia2, il2, ic2⟩ := H6.out.2.2.2.2.2.below b7
    have E7 := H6.out.2.1.below b7
    have HC := like_all n ⟨t1, va1, vl1, vc1, ia1, il1, ic1⟩ ⟨t2, va2, vl2, vc2, ia2, il2, ic2⟩ T w7 HCN.out ((((H4.out.2.2.2.2.below H6.out.2.2.1).below b7)).weaken (Nat.zero_le _) (fun h => by cases h)) ((H6.out.2.2.2.2.1.below b7).weaken (Nat.zero_le _) (fun h => by cases h))
    simp only [Qs.val] at HC
    have HC8 : Hid (Calls Yba.prog 8 #[.agg #[.int .i64 t1, .slice va1 vl1 vc1, .slice ia1 il1 ic1], .agg #[.int .i64 t2, .slice va2 vl2 vc2, .slice ia2 il2 ic2]] w7 fun e w' => e = .returned (.bool true) ∧ Below w7.heap.size w7 w') := HC
    obtain ⟨e1, e2, e3⟩ := E7
    obtain ⟨d1, d2, d3⟩ := D7
    simp only at e1 e2 e3 d1 d2 d3
    have HB7 : Hid (Below W6.heap.size W6 w7) := b7
    clear HC b7
    go_wp2_with fail
    refine HC8.out.mono ?_
    rintro e w8 ⟨rfl, b8⟩
    clear e1 e2 e3 d1 d2 d3 HC8
    -- the scribbling
    have b68 : Below W6.heap.size W6 w8 := HB7.out.trans (b8.mono HB7.out.size)
    have B8 : Below W4.heap.size W4 w8 := H6.out.2.2.1.trans (b68.mono H6.out.2.2.1.size)
    have R8 : RowOf w8 G 3 := H6.out.2.2.2.1.of_block (b68.block G H6.out.2.2.2.1.lt)
    have HC := scrib_all n ⟨t2, va2, vl2, vc2, ia2, il2, ic2⟩ T w8 W4.heap.size 140737488355328 G 0 ((H6.out.2.2.2.2.1.below b68).own HO.out) (H6.out.2.2.2.2.2.below b68) hG ⟨R8.frozen 0, R8.frozen 1, R8.frozen 2⟩ (by have := HCN.out; omega)
    have HC9 : Hid (Calls Yba.prog 9 #[.pointer (some ⟨G, 0, none⟩)] w8 fun e w' => e = .returned (.tuple #[]) ∧ Below W4.heap.size w8 w' ∧ Keeps (count n T) w8 w') := HC
    have HB8 : Hid (Below W4.heap.size W4 w8) := B8
    clear HC b68 B8 R8 b8 HB7
    go_wp2_with fail
    refine HC9.out.mono ?_
    rintro e w9 ⟨rfl, b9, _⟩
    clear HC9
    -- and the argument still is as want
    have B9 : Below W4.heap.size W4 w9 := HB8.out.trans b9
    have BW : Below w.heap.size w w9 := H4.out.2.2.1.trans (B9.mono H4.out.2.2.1.size)
    have HC := same_all n q ⟨t1, va1, vl1, vc1, ia1, il1, ic1⟩ T w9 HCN.out (HI.out.below BW) ((H4.out.2.2.2.2.below B9).weaken (Nat.zero_le _) (fun h => by cases h))
    rw [HV.out] at HC
    simp only [Qs.val] at HC
    have HC10 : Hid (Calls Yba.prog 7 #[.agg #[.int .i64 q.t, .slice q.va q.vl q.vc, .slice q.ia q.il q.ic], .agg #[.int .i64 t1, .slice va1 vl1 vc1, .slice ia1 il1 ic1]] w9 fun e w' => e = .returned (.bool true) ∧ Below w9.heap.size w9 w') := HC
    obtain ⟨a1, a2, a3⟩ := H4.out.1.below B9
    obtain ⟨e1, e2, e3⟩ := H4.out.2.1.below B9
    simp only at e1 e2 e3
    have HBW : Hid (Below w.heap.size w w9) := BW
    clear HC b9 B9 BW
    go_wp2_with fail
    refine HC10.out.mono ?_
    rintro e w10 ⟨rfl, b10⟩
    clear a1 a2 a3 e1 e2 e3 HC10
    have HZ : Hid (Below w.heap.size w w10) := HBW.out.trans (b10.mono HBW.out.size)
    clear b10
    go_wp2
    go_ret
    exact ⟨rfl, HZ.out⟩
end Go.Proofs.Ybulkdvsy
