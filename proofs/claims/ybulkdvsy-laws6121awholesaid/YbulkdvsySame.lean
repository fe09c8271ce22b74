/-
  zzs6121asame (7): of two sets that hold the same tree: true.
-/
import Derived.Test.YbulkdvsyBase
import Derived.Deep.QuietTactic
import Derived.BigQuiet
import Derived.Deep.RegionHeld3
import Derived.Lib.SliceRun
namespace Go.Proofs.Ybulkdvsy
open Go.RowKit

def SameAt (n : Nat) : Prop := ∀ (a b : Qs) (T : Tree n) (w : World), count n T ≤ 65536 → Is n 0 false w a T → Is n 0 false w b T →
  Calls Yba.prog 7 #[a.val, b.val] w fun e w' => e = .returned (.bool true) ∧ Below w.heap.size w w'

set_option maxHeartbeats 1000000 in
set_option maxRecDepth 100000 in
theorem same_step (n : Nat) (IH : Hid (SameAt n)) : SameAt (n + 1) := by
  intro a b T w hc ha hb
  obtain ⟨t, nv, ss, ni, ts, rfl⟩ := mk_of T
  have hil := ha.len_le
  rw [count_mk] at hc
  obtain ⟨a1, a2, a3, a4, a5, a6, a7⟩ := ha.parts
  obtain ⟨b1, b2, b3, b4, b5, b6, b7⟩ := hb.parts
  obtain ⟨ta, va, vl, vc, ia, il, ic⟩ := a
  obtain ⟨tb, vb, vm, vd, ib, im, id⟩ := b
  simp only at a1 a2 a3 a4 a5 a6 a7 b1 b2 b3 b4 b5 b6 b7
  subst a1 a3 a6 b1 b3 b6
  have hv : va.isNone = vb.isNone := a2.trans b2.symm
  have hi : ia.isNone = ib.isNone := a5.trans b5.symm
  clear a2 a5 b2 b5
  have HS : Hid ((ts.map (count n)).sum ≤ 65536) := by show _ ≤ _; omega
  have hl1 : ss.length ≤ 65536 := by omega
  have hl2 : ts.length ≤ 65536 := by omega
  clear hil hc
  have HA : Hid (∀ i (h : i < ts.length), ∃ b o c, ia = some ⟨b, o, none⟩ ∧ 0 ≤ b ∧ (false = true → Free3 w b (o + i * 3)) ∧ At w b (o + i * 3) c ∧ Is n 0 false w c ts[i]) := a7
  have HB : Hid (∀ i (h : i < ts.length), ∃ b o c, ib = some ⟨b, o, none⟩ ∧ 0 ≤ b ∧ (false = true → Free3 w b (o + i * 3)) ∧ At w b (o + i * 3) c ∧ Is n 0 false w c ts[i]) := b7
  have HA4 : Hid (∀ i (h : i < ss.length), ∃ b o, va = some ⟨b, o, none⟩ ∧ 0 ≤ b ∧ (false = true → w.frozen? ⟨b, o + i, none⟩ = false) ∧ w.cell? ⟨b, o + i, none⟩ = some (.string ss[i])) := a4
  have HB4 : Hid (∀ i (h : i < ss.length), ∃ b o, vb = some ⟨b, o, none⟩ ∧ 0 ≤ b ∧ (false = true → w.frozen? ⟨b, o + i, none⟩ = false) ∧ w.cell? ⟨b, o + i, none⟩ = some (.string ss[i])) := b4
  clear a7 b7 a4 b4 ha hb
  have q22 := fun (w : World) (a : Option Addr) (n c n' c' : Nat) => Lib.run_eql_slice_nil (P := Yba.prog) w 22 9 a n c n' c' Yba.underlying22
  have q23 := fun (w : World) (a : Option Addr) (n c n' c' : Nat) => Lib.run_eql_slice_nil (P := Yba.prog) w 23 25 a n c n' c' Yba.underlying23
  simp only [Qs.val]
  go_enter Yba.func7, Yba.ntmps7
  go_wp2
  obtain ⟨W1, hW1⟩ : ∃ W1, W1 = (w.alloc (.cells #[.int .i64 tb, .slice va ss.length vc, .slice ia ts.length ic] 25)).alloc (.cells #[.int .i64 tb, .slice vb ss.length vd, .slice ib ts.length id] 25) := ⟨_, rfl⟩
  rw [← hW1]
  have hN : w.heap.size < W1.heap.size ∧ w.heap.size + 1 < W1.heap.size := by rw [hW1, size_alloc, size_alloc]; omega
  have B1 : Below w.heap.size w W1 := by rw [hW1]; exact ((Below.refl _ _).alloc (Nat.le_refl _) _).alloc (by rw [size_alloc]; omega) _
  have bA : At W1 w.heap.size 0 ⟨tb, va, ss.length, vc, ia, ts.length, ic⟩ := by
    rw [hW1]
    exact (boxed w ⟨tb, va, ss.length, vc, ia, ts.length, ic⟩).below ((Below.refl _ _).alloc (Nat.le_refl _) _)
  have bB : At W1 (w.heap.size + 1) 0 ⟨tb, vb, ss.length, vd, ib, ts.length, id⟩ := by
    rw [hW1]
    have := boxed (w.alloc (.cells #[.int .i64 tb, .slice va ss.length vc, .slice ia ts.length ic] 25)) ⟨tb, vb, ss.length, vd, ib, ts.length, id⟩
    rwa [size_alloc] at this
  clear hW1
  go_loopw [31] (fun s wr => ∃ k : Nat, k ≤ ss.length ∧ s = .int .i64 k ∧ Below W1.heap.size W1 wr) (fun s _ => ss.length - (intOf s).toNat)
  case atStart => exact ⟨0, Nat.zero_le _, rfl, Below.refl _ _⟩
  case round =>
    obtain ⟨k, hk, rfl, hBr⟩ := hrel
    have rA := bA.below hBr
    have rB := bB.below hBr
    by_cases hlt : k < ss.length
    · obtain ⟨b1, o1, e1, _, _, c1⟩ := HA4.out k hlt
      obtain ⟨b2, o2, e2, _, _, c2⟩ := HB4.out k hlt
      have d1 := (hBr.cell (Nat.lt_of_lt_of_le (World.block_lt_of_cell? w _ c1) B1.size)).trans ((B1.cell (World.block_lt_of_cell? w _ c1)).trans c1)
      have d2 := (hBr.cell (Nat.lt_of_lt_of_le (World.block_lt_of_cell? w _ c2) B1.size)).trans ((B1.cell (World.block_lt_of_cell? w _ c2)).trans c2)
      have fA := rA.2.1
      have fB := rB.2.1
      simp only [e1, e2] at fA fB
      clear c1 c2 e1 e2 rA rB
      go_wp2
      go_quiet (fail)
      go_wp2
      go_roundw
      case rel => exact ⟨k + 1, by omega, by go_num, below_drewN hBr _⟩
      case measure => simp [intOf]; omega
    · have f1 := rA.2.2
      have f2 := rB.2.2
      simp only at f1 f2
      clear rA rB
      go_wp2
      go_loopw [65] (fun s wr => ∃ k : Nat, k ≤ ts.length ∧ s = .int .i64 k ∧ Below W1.heap.size W1 wr) (fun s _ => ts.length - (intOf s).toNat)
      case atStart => exact ⟨0, Nat.zero_le _, rfl, hBr⟩
      case round =>
        clear f1 f2 hBr
        obtain ⟨j, hj, rfl, hBs⟩ := hrel
        have B2 : Below w.heap.size w wr := B1.trans (hBs.mono B1.size)
        by_cases hjl : j < ts.length
        · obtain ⟨b1, o1, c, e1, _, _, x1, i1⟩ := HA.out j hjl
          obtain ⟨b2, o2, d, e2, _, _, x2, i2⟩ := HB.out j hjl
          have y1 := x1.below B2
          have y2 := x2.below B2
          have HK : Held wr.drew w.heap.size (w.heap.size + 1) b1 (o1 + j * 3) b2 (o2 + j * 3) (.slice (some ⟨b1, o1, none⟩) ts.length ic) (.slice (some ⟨b2, o2, none⟩) ts.length id) c d := by
            have z1 := (bA.below hBs).2.2
            have z2 := (bB.below hBs).2.2
            simp only [e1, e2] at z1 z2
            exact ⟨z1, z2, y1.1, y1.2.1, y1.2.2, y2.1, y2.2.1, y2.2.2⟩
          have HI : Hid (Calls Yba.prog 7 #[c.val, d.val] wr.drew fun e w' => e = .returned (.bool true) ∧ Below wr.drew.heap.size wr.drew w') := by
            refine IH.out c d ts[j] wr.drew ?_ ?_ ?_
            · have := count_get ts j hjl
              have := HS.out
              omega
            · exact i1.below B2.drew
            · exact i2.below B2.drew
          clear x1 x2 y1 y2 e1 e2 i1 i2
          have HK1 : Hid (Held wr.drew w.heap.size (w.heap.size + 1) b1 (o1 + j * 3) b2 (o2 + j * 3) (.slice (some ⟨b1, o1, none⟩) ts.length ic) (.slice (some ⟨b2, o2, none⟩) ts.length id) c d) := HK
          clear HK
          go_wp2
          go_region_held3 (fun w' => w'.cell? ⟨w.heap.size, 2, none⟩ = some (.slice (some ⟨b1, o1, none⟩) ts.length ic) ∧ w'.cell? ⟨w.heap.size + 1, 2, none⟩ = some (.slice (some ⟨b2, o2, none⟩) ts.length id) ∧
            w'.cell? ⟨b1, o1 + j * 3, none⟩ = some (.int .i64 c.t) ∧ w'.cell? ⟨b1, o1 + j * 3 + 1, none⟩ = some (.slice c.va c.vl c.vc) ∧ w'.cell? ⟨b1, o1 + j * 3 + 2, none⟩ = some (.slice c.ia c.il c.ic) ∧
            w'.cell? ⟨b2, o2 + j * 3, none⟩ = some (.int .i64 d.t) ∧ w'.cell? ⟨b2, o2 + j * 3 + 1, none⟩ = some (.slice d.va d.vl d.vc) ∧ w'.cell? ⟨b2, o2 + j * 3 + 2, none⟩ = some (.slice d.ia d.il d.ic))
            (first | exact HK1.out | exact HK2.out) (first | (go_at_call 7; refine HI.out.mono ?_; rintro e w2 ⟨rfl, hb⟩; have HK2 : Hid (Held w2 w.heap.size (w.heap.size + 1) b1 (o1 + j * 3) b2 (o2 + j * 3) (.slice (some ⟨b1, o1, none⟩) ts.length ic) (.slice (some ⟨b2, o2, none⟩) ts.length id) c d) := HK1.out.below hb))
          go_wp2
          go_roundw
          case rel => exact ⟨j + 1, by omega, by go_num, hBs.drew.trans (hb.mono hBs.size)⟩
          case measure => simp [intOf]; omega
        · go_wp2
          go_ret
          exact ⟨rfl, B2⟩

theorem same_all : ∀ n, SameAt n
  | 0 => fun _ _ _ _ _ h _ => h.elim
  | n + 1 => same_step n (same_all n)
end Go.Proofs.Ybulkdvsy
