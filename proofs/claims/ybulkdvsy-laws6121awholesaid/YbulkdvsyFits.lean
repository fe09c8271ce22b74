/-
  zzs6121afits (4): true: the tree's count is within the budget, which is less by it; it writes the budget's cell alone.
-/
import Derived.Test.YbulkdvsyBase
import Derived.Deep.QuietTactic
import Derived.BigQuiet
namespace Go.Proofs.Ybulkdvsy
open Go.RowKit

/-- Of what was there only block bb may have turned. -/
def Only (bb : Nat) (w w' : World) : Prop := w'.os = w.os ∧ w'.tape = w.tape ∧ w'.output = w.output ∧ w.heap.size ≤ w'.heap.size ∧ ∀ k, k < w.heap.size → k ≠ bb → w'.heap[k]? = w.heap[k]?

theorem Only.refl (bb : Nat) (w : World) : Only bb w w := ⟨rfl, rfl, rfl, Nat.le_refl _, fun _ _ _ => rfl⟩
theorem Only.trans {bb : Nat} {a b c : World} (h : Only bb a b) (k : Only bb b c) : Only bb a c :=
  ⟨k.1.trans h.1, k.2.1.trans h.2.1, k.2.2.1.trans h.2.2.1, Nat.le_trans h.2.2.2.1 k.2.2.2.1, fun i hi hne => (k.2.2.2.2 i (Nat.lt_of_lt_of_le hi h.2.2.2.1) hne).trans (h.2.2.2.2 i hi hne)⟩
theorem Only.drew {bb : Nat} {a w : World} (h : Only bb a w) : Only bb a w.drew := h
theorem Only.alloc {bb : Nat} {a w : World} (h : Only bb a w) (o : Obj) : Only bb a (w.alloc o) :=
  h.trans ⟨rfl, rfl, rfl, by simp, fun k hk _ => Below.heap_alloc _ _ _ hk⟩
theorem Only.setCell {bb : Nat} {a w : World} (h : Only bb a w) (o : Nat) (v : Value) : Only bb a (w.setCell ⟨bb, o, none⟩ v) :=
  h.trans ⟨rfl, rfl, rfl, by simp [World.setCell], fun k _ hne => Below.heap_setCell _ _ _ _ hne⟩
theorem Only.cell {bb : Nat} {w w' : World} (h : Only bb w w') {p : Addr} {v : Value} (hp : p.block ≠ bb) (hc : w.cell? p = some v) : w'.cell? p = some v :=
  (World.cell?_of_block (w := w) (h.2.2.2.2 p.block (World.block_lt_of_cell? w _ hc) hp)).trans hc
theorem Only.at {bb : Nat} {w w' : World} (h : Only bb w w') {b o : Nat} {q : Qs} (hp : b ≠ bb) (hc : At w b o q) : At w' b o q := hc.of_block (h.2.2.2.2 b hc.lt hp)
theorem Below.only {B bb : Nat} {a w w' : World} (h : Below B a w) (ha : a.heap.size = B) (k : Only bb w w') (hb : B ≤ bb) : Below B a w' :=
  ⟨k.1.trans h.os, k.2.1.trans h.tape, k.2.2.1.trans h.output, Nat.le_trans h.size k.2.2.2.1, fun i hi => (k.2.2.2.2 i (by have := h.size; omega) (by omega)).trans (h.block i hi)⟩

def FitsAt (n : Nat) : Prop := ∀ (q : Qs) (T : Tree n) (W w : World) (bb k : Nat), Ok n T → Is n 0 false W q T → Below W.heap.size W w → W.heap.size ≤ bb → w.cell? ⟨bb, 0, none⟩ = some (.int .i64 (k : Int)) → w.frozen? ⟨bb, 0, none⟩ = false → k ≤ 65536 →
  Calls Yba.prog 4 #[q.val, .pointer (some ⟨bb, 0, none⟩)] w fun e w' => Only bb w w' ∧ (e = .returned (.bool false) ∨ e = .returned (.bool true) ∧ count n T ≤ k ∧ w'.cell? ⟨bb, 0, none⟩ = some (.int .i64 ((k - count n T : Nat) : Int)) ∧ w'.frozen? ⟨bb, 0, none⟩ = false)

set_option maxHeartbeats 1000000 in
set_option maxRecDepth 100000 in
theorem fits_step (n : Nat) (IH : Hid (FitsAt n)) : FitsAt (n + 1) := by
  intro q T W w bb k hO hI hB hbb hcb hfb hk
  obtain ⟨t, nv, ss, ni, ts, rfl⟩ := mk_of T
  have hil := hI.len_le
  obtain ⟨a1, a2, a3, a4, a5, a6, a7⟩ := hI.parts
  obtain ⟨ta, va, vl, vc, ia, il, ic⟩ := q
  simp only at a1 a2 a3 a4 a5 a6 a7
  subst a1 a3 a6
  clear a2 a5 a4
  obtain ⟨ok1, ok2, _, ok4⟩ := hO
  have HO : Hid (∀ i (h : i < ts.length), Ok n ts[i]) := ok4
  have HA : Hid (∀ i (h : i < ts.length), ∃ b o c, ia = some ⟨b, o, none⟩ ∧ 0 ≤ b ∧ (false = true → Free3 W b (o + i * 3)) ∧ At W b (o + i * 3) c ∧ Is n 0 false W c ts[i]) := a7
  have HC : Hid (count (n + 1) (mk ta nv ss ni ts) = 1 + ss.length + (ts.map (count n)).sum) := count_mk ..
  clear a7 ok4 hI hil
  have hbw : bb < w.heap.size := World.block_lt_of_cell? w _ hcb
  simp only [Qs.val]
  go_enter Yba.func4, Yba.ntmps4
  go_wp2
  obtain ⟨W1, hW1⟩ : ∃ W1, W1 = w.alloc (.cells #[.int .i64 ta, .slice va ss.length vc, .slice ia ts.length ic] 25) := ⟨_, rfl⟩
  rw [← hW1]
  have O1 : Only bb w W1 := by rw [hW1]; exact (Only.refl _ _).alloc _
  have bA : At W1 w.heap.size 0 ⟨ta, va, ss.length, vc, ia, ts.length, ic⟩ := by rw [hW1]; exact boxed w ⟨ta, va, ss.length, vc, ia, ts.length, ic⟩
  have cb1 : W1.cell? ⟨bb, 0, none⟩ = some (.int .i64 (k : Int)) := by rw [hW1, World.cell?_alloc_lt _ _ _ hbw]; exact hcb
  have fb1 : W1.frozen? ⟨bb, 0, none⟩ = false := by rw [hW1, World.frozen?_alloc_past _ _ _ hbw]; exact hfb
  clear hW1 hcb hfb
  have cA := bA.2.1
  simp only at cA
  have HbA : Hid (At W1 w.heap.size 0 ⟨ta, va, ss.length, vc, ia, ts.length, ic⟩) := bA
  clear bA
  go_region
  obtain ⟨W2, hW2⟩ : ∃ W2, W2 = (W1.setCell ⟨bb, 0, none⟩ (.int .i64 ((k : Int) - (1 + (ss.length : Int))))).drew := ⟨_, rfl⟩
  rw [← hW2]
  have O2 : Only bb W1 W2 := by rw [hW2]; exact ((Only.refl _ _).setCell 0 _).drew
  have cb2 : W2.cell? ⟨bb, 0, none⟩ = some (.int .i64 ((k : Int) - (1 + (ss.length : Int)))) := by
    rw [hW2]
    exact World.cell?_setCell_same W1 _ _ cb1
  have fb2 : W2.frozen? ⟨bb, 0, none⟩ = false := by
    rw [hW2]
    simpa using fb1
  have bA2 : At W2 w.heap.size 0 ⟨ta, va, ss.length, vc, ia, ts.length, ic⟩ := O2.at (by omega) HbA.out
  clear hW2 cb1 fb1 cA HbA
  have O12 := O1.trans O2
  clear O1 O2
  by_cases hk1 : k < 1 + ss.length
  · have h1 : (k : Int) - (1 + (ss.length : Int)) < 0 := by omega
    clear bA2 fb2
    go_wp2
    go_ret
    exact ⟨O12, .inl rfl⟩
  · obtain ⟨k2, hk2⟩ : ∃ k2, k = 1 + ss.length + k2 := ⟨k - (1 + ss.length), by omega⟩
    have e1 : (k : Int) - (1 + (ss.length : Int)) = (k2 : Int) := by omega
    rw [e1] at cb2 ⊢
    clear e1 hk1
    have h0 : ¬ ((k2 : Int) < 0) := by omega
    have cA := bA2.2.2
    simp only at cA
    have HbA : Hid (At W2 w.heap.size 0 ⟨ta, va, ss.length, vc, ia, ts.length, ic⟩) := bA2
    have HK : Hid (k = 1 + ss.length + k2) := hk2
    clear bA2 hk2
    have hk3 : k2 ≤ 65536 := by have := HK.out; omega
    go_wp2
    go_loopw [22] (fun s wr => ∃ i : Nat, i ≤ ts.length ∧ s = .int .i64 i ∧ Hid (Only bb W2 wr ∧ ((ts.map (count n)).take i).sum ≤ k2 ∧ wr.cell? ⟨bb, 0, none⟩ = some (.int .i64 ((k2 - ((ts.map (count n)).take i).sum : Nat) : Int)) ∧ wr.frozen? ⟨bb, 0, none⟩ = false)) (fun s _ => ts.length - (intOf s).toNat)
    case atStart => exact ⟨0, Nat.zero_le _, rfl, Only.refl _ _, by simp, by simpa using cb2, fb2⟩
    case round =>
      clear cA cb2 fb2
      obtain ⟨i, hi, rfl, HR⟩ := hrel
      have cA := (HR.out.1.at (by omega) HbA.out).2.2
      simp only at cA
      by_cases hlt : i < ts.length
      · obtain ⟨b1, o1, c, ei, _, _, x1, i1⟩ := HA.out i hlt
        have O3 : Only bb w wr := O12.trans HR.out.1
        have B3 : Below W.heap.size W wr := Below.only hB rfl O3 hbb
        have y1 := x1.below B3
        have HI : Hid (Calls Yba.prog 4 #[c.val, .pointer (some ⟨bb, 0, none⟩)] wr fun e w' => Only bb wr w' ∧ (e = .returned (.bool false) ∨ e = .returned (.bool true) ∧ count n ts[i] ≤ k2 - ((ts.map (count n)).take i).sum ∧ w'.cell? ⟨bb, 0, none⟩ = some (.int .i64 ((k2 - ((ts.map (count n)).take i).sum - count n ts[i] : Nat) : Int)) ∧ w'.frozen? ⟨bb, 0, none⟩ = false)) := by
          refine IH.out c ts[i] W wr bb _ (HO.out i hlt) i1 B3 hbb HR.out.2.2.1 HR.out.2.2.2 ?_
          omega
        rw [ei] at cA
        obtain ⟨y1a, y1b, y1c⟩ := y1
        have HO3 : Hid (Only bb w wr) := O3
        clear x1 ei i1 O3 B3
        go_wp2_with fail
        refine HI.out.mono ?_
        rintro e w2 ⟨ho, rfl | ⟨rfl, h1, h2, h3⟩⟩
        · clear y1a y1b y1c cA
          go_wp2
          go_ret
          exact ⟨HO3.out.trans ho, .inl rfl⟩
        · have hs := sum_next (ts.map (count n)) i (by simpa using hlt)
          rw [List.getElem_map] at hs
          have HR2 : Hid (Only bb W2 w2 ∧ ((ts.map (count n)).take (i + 1)).sum ≤ k2 ∧ w2.cell? ⟨bb, 0, none⟩ = some (.int .i64 ((k2 - ((ts.map (count n)).take (i + 1)).sum : Nat) : Int)) ∧ w2.frozen? ⟨bb, 0, none⟩ = false) := by
            have := HR.out.2.1
            refine ⟨HR.out.1.trans ho, by omega, ?_, h3⟩
            rw [h2, hs, Nat.sub_sub]
          clear h1 h2 h3 hs y1a y1b y1c cA
          go_wp2
          go_roundw
          case rel => exact ⟨i + 1, by omega, by go_num, HR2⟩
          case measure => simp [intOf]; omega
      · have HR2 := HR
        obtain rfl : i = ts.length := by omega
        go_wp2
        go_ret
        obtain ⟨r1, r2, r3, r4⟩ := HR2.out
        rw [show (ts.map (count n)).take ts.length = ts.map (count n) from by rw [show ts.length = (ts.map (count n)).length by simp]; exact List.take_length] at r2 r3
        have := HK.out
        refine ⟨O12.trans r1, .inr ⟨rfl, ?_, ?_, r4⟩⟩
        · rw [HC.out]; omega
        · rw [HC.out, r3]
          congr 3
          omega

theorem fits_all : ∀ n, FitsAt n
  | 0 => fun _ _ _ _ _ _ _ h => h.elim
  | n + 1 => fits_step n (fits_all n)
end Go.Proofs.Ybulkdvsy
