/-
  zzs6121acopy (5): a set that holds the same tree, in blocks of the call's own.
-/
import Derived.Test.YbulkdvsyFill
import Derived.Deep.QuietTactic
import Derived.BigQuiet
import Derived.Deep.RegionHeld3
import Derived.Deep.DeepCutAuto
import Derived.Lib.SliceRun
namespace Go.Proofs.Ybulkdvsy
open Go.RowKit

/-- Behind the first half: the new set's validators are there. -/
def Cp1 (N : Nat) (w wc : World) (q : Qs) (ss : List ByteArray) (va' : Option Addr) (vc' : Nat) : Prop :=
  Fr N w wc q ⟨q.t, va', ss.length, vc', none, 0, 0⟩ ∧ va'.isNone = q.va.isNone ∧ Strs (N + 3) wc va' ss

/-- Behind both: the new set. -/
def Cp2 (n N : Nat) (w wc : World) (q : Qs) (ss : List ByteArray) (ts : List (Tree n)) (c : Qs) : Prop :=
  Fr N w wc q c ∧ Is (n + 1) (N + 3) true wc c (mk q.t q.va.isNone ss q.ia.isNone ts)

def CopyAt (n : Nat) : Prop := ∀ (q : Qs) (T : Tree n) (w : World), count n T ≤ 65536 → Is n 0 false w q T →
  Calls Yba.prog 5 #[q.val] w fun e w' => ∃ c : Qs, e = .returned c.val ∧ Is n w.heap.size true w' c T ∧ Below w.heap.size w w'

set_option maxHeartbeats 1000000 in
set_option maxRecDepth 100000 in
theorem copy_step (n : Nat) (IH : Hid (CopyAt n)) : CopyAt (n + 1) := by
  intro q T w hc hI
  obtain ⟨t, nv, ss, ni, ts, rfl⟩ := mk_of T
  have hil := hI.len_le
  rw [count_mk] at hc
  obtain ⟨a1, a2, a3, a4, a5, a6, a7⟩ := hI.parts
  obtain ⟨ta, va, vl, vc, ia, il, ic⟩ := q
  simp only at a1 a2 a3 a4 a5 a6 a7
  subst a1 a3 a6
  have HN : Hid (va.isNone = nv ∧ ia.isNone = ni) := ⟨a2, a5⟩
  have HS : Hid ((ts.map (count n)).sum ≤ 65536) := by show _ ≤ _; omega
  have hl1 : ss.length ≤ 65536 := by omega
  have hl2 : ts.length ≤ 65536 := by omega
  have HA : Hid (∀ i (h : i < ts.length), ∃ b o c, ia = some ⟨b, o, none⟩ ∧ 0 ≤ b ∧ (false = true → Free3 w b (o + i * 3)) ∧ At w b (o + i * 3) c ∧ Is n 0 false w c ts[i]) := a7
  have HA4 : Hid (∀ i (h : i < ss.length), ∃ b o, va = some ⟨b, o, none⟩ ∧ 0 ≤ b ∧ (false = true → w.frozen? ⟨b, o + i, none⟩ = false) ∧ w.cell? ⟨b, o + i, none⟩ = some (.string ss[i])) := a4
  clear hil hc a2 a5 a4 a7 hI
  simp only [Qs.val]
  go_enter Yba.func5, Yba.ntmps5
  go_upto_if 11 with fail
  obtain ⟨N, hN⟩ : ∃ N, N = w.heap.size := ⟨_, rfl⟩
  have hF := Fr.start w ⟨ta, va, ss.length, vc, ia, ts.length, ic⟩ ⟨ta, none, 0, 0, none, 0, 0⟩ #[.int .i64 0, .slice none 0 0, .slice none 0 0] rfl
  simp only at hF
  obtain ⟨W1, hW1⟩ : ∃ W1, W1 = ((w.alloc (.cells #[.int .i64 ta, .slice va ss.length vc, .slice ia ts.length ic] 25)).alloc (.cells #[.int .i64 0, .slice none 0 0, .slice none 0 0] 25)).alloc (.cells #[.int .i64 ta, .slice none 0 0, .slice none 0 0] 25) := ⟨_, rfl⟩
  rw [← hW1] at hF ⊢
  clear hW1
  rw [← hN] at hF ⊢
  have HF : Hid (Fr N w W1 ⟨ta, va, ss.length, vc, ia, ts.length, ic⟩ ⟨ta, none, 0, 0, none, 0, 0⟩) := hF
  have HNw : Hid (w.heap.size = N) := hN.symm
  clear hN hF
  go_cut [] (fun wc => ∃ va' vc', Cp1 N w wc ⟨ta, va, ss.length, vc, ia, ts.length, ic⟩ ss va' vc')
  case first =>
    cases va with
    | none =>
      have h0 : ss.length = 0 := by
        rcases Nat.eq_zero_or_pos ss.length with h | h
        · exact h
        · obtain ⟨_, _, e, _⟩ := HA4.out 0 h
          cases e
      have HX : Cp1 N w W1 ⟨ta, none, ss.length, vc, ia, ts.length, ic⟩ ss none 0 := by
        refine ⟨?_, rfl, fun i hi => by omega⟩
        have := HF.out
        rw [h0] at this ⊢
        exact this
      clear h0
      go_wp2
      go_meet
      case rel => exact ⟨none, 0, HX⟩
    | some ad =>
      have hmk := run_make_row' (P := Yba.prog) 22 9 (.string ⟨#[]⟩) 16 Yba.underlying22 Yba.info9 rfl .i64 .i64 ss.length (by omega) (by omega) W1
      have hfm := HF.out.alloc (.cells (madeCells #[.string ⟨#[]⟩] ss.length) 9)
      obtain ⟨Wm, hWm⟩ : ∃ Wm, Wm = W1.alloc (.cells (madeCells #[.string ⟨#[]⟩] ss.length) 9) := ⟨_, rfl⟩
      have hblk : Wm.heap[W1.heap.size]? = some (.cells (madeCells #[.string ⟨#[]⟩] ss.length) 9 (0, 0)) := by rw [hWm]; exact Go.Deep.blk_alloc_new _ _
      rw [← hWm] at hmk hfm
      clear hWm
      obtain ⟨B, hB⟩ : ∃ B, B = W1.heap.size := ⟨_, rfl⟩
      have hBN : N + 1 + 1 < B := by have := HF.out.size; omega
      rw [← hB] at hmk hblk
      clear hB
      have hf2 := hfm.set1 (some ⟨B, 0, none⟩) ss.length ss.length
      have SF : SFilled B ss 0 (Wm.setCell ⟨N + 1 + 1, 1, none⟩ (.slice (some ⟨B, 0, none⟩) ss.length ss.length)) (Wm.setCell ⟨N + 1 + 1, 1, none⟩ (.slice (some ⟨B, 0, none⟩) ss.length ss.length)) := by
        refine ⟨Only.refl _ _, madeCells #[.string ⟨#[]⟩] ss.length, ?_, size_madeCells _ _, fun j _ hj => by omega⟩
        rw [Below.heap_setCell _ _ _ _ (by show B ≠ N + 1 + 1; omega)]
        exact hblk
      obtain ⟨W2, hW2⟩ : ∃ W2, W2 = Wm.setCell ⟨N + 1 + 1, 1, none⟩ (.slice (some ⟨B, 0, none⟩) ss.length ss.length) := ⟨_, rfl⟩
      have HF1 : Hid (Fr N w W1 ⟨ta, some ad, ss.length, vc, ia, ts.length, ic⟩ ⟨ta, none, 0, 0, none, 0, 0⟩) := HF
      have HFm : Hid (Fr N w Wm ⟨ta, some ad, ss.length, vc, ia, ts.length, ic⟩ ⟨ta, none, 0, 0, none, 0, 0⟩) := hfm
      have HF2 : Hid (Fr N w W2 ⟨ta, some ad, ss.length, vc, ia, ts.length, ic⟩ ⟨ta, some ⟨B, 0, none⟩, ss.length, ss.length, none, 0, 0⟩) := by rw [hW2]; exact hf2
      rw [← hW2] at SF
      have HSF : Hid (SFilled B ss 0 W2 W2) := SF
      have HW2 : Hid (W2 = Wm.setCell ⟨N + 1 + 1, 1, none⟩ (.slice (some ⟨B, 0, none⟩) ss.length ss.length)) := hW2
      clear hf2 hfm HF hW2 SF hblk
      have x1 := HF1.out.2.1.2.1
      have x2 := HFm.out.2.2.2.1.2.1
      have x3 := HFm.out.2.2.2.2.frozen 1
      have x4 := HF2.out.2.1.2.1
      simp only at x1 x2 x3 x4
      rw [HW2.out] at x4
      go_wp2
      rw [← HW2.out]
      clear x1 x2 x3 x4 hmk
      simp only [Option.isSome_some]
      go_loopw [20] (fun s wr => ∃ i : Nat, i ≤ ss.length ∧ s = .int .i64 i ∧ Hid (SFilled B ss i W2 wr)) (fun s _ => ss.length - (intOf s).toNat)
      case atStart => exact ⟨0, Nat.zero_le _, rfl, HSF⟩
      case round =>
        obtain ⟨i, hi, rfl, HR⟩ := hrel
        by_cases hlt : i < ss.length
        · obtain ⟨b1, o1, e, _, _, c1⟩ := HA4.out i hlt
          have fr := HF2.out.only HR.out.1 HNw.out hBN
          have x1 := fr.2.1.2.1
          have x2 := fr.2.2.2.1.2.1
          have x3 := (fr.1.cell (by rw [← HNw.out]; exact World.block_lt_of_cell? w _ c1)).trans c1
          obtain ⟨⟨v, x4⟩, x5⟩ := HR.out.cell hlt
          simp only at x1 x2
          rw [e] at x1
          clear e c1 fr
          have HX : Hid (SFilled B ss (i + 1) W2 (wr.setCell ⟨B, i, none⟩ (.string ss[i])).drew) := (HR.out.next hlt).drew
          go_wp2
          go_region
          go_wp2
          go_roundw
          case rel => exact ⟨i + 1, by omega, by go_num, HX⟩
          case measure => simp [intOf]; omega
        · obtain rfl : i = ss.length := by omega
          have HX : Cp1 N w wr ⟨ta, some ad, ss.length, vc, ia, ts.length, ic⟩ ss (some ⟨B, 0, none⟩) ss.length :=
            ⟨HF2.out.only HR.out.1 HNw.out hBN, rfl, HR.out.strs (by omega)⟩
          go_wp2
          go_meet
          case rel => exact ⟨_, _, HX⟩
  case rest =>
    clear HF
    obtain ⟨va', vc', HC⟩ := hcut
    have HCC : Hid (Cp1 N w wc ⟨ta, va, ss.length, vc, ia, ts.length, ic⟩ ss va' vc') := HC
    clear HC
    have x1 := HCC.out.1.2.1.2.2
    simp only at x1
    go_upto_if 35 with fail
    go_cut [] (fun wd => ∃ c, Cp2 n N w wd ⟨ta, va, ss.length, vc, ia, ts.length, ic⟩ ss ts c)
    case first =>
      cases ia with
      | none =>
        have h0 : ts.length = 0 := by
          rcases Nat.eq_zero_or_pos ts.length with h | h
          · exact h
          · obtain ⟨_, _, _, e, _⟩ := HA.out 0 h
            cases e
        have HX : Cp2 n N w wc ⟨ta, va, ss.length, vc, none, ts.length, ic⟩ ss ts ⟨ta, va', ss.length, vc', none, ts.length, 0⟩ := by
          obtain ⟨g1, g2, g3⟩ := HCC.out
          refine ⟨?_, rfl, g2, rfl, fun i hi => ?_, rfl, rfl, fun i hi => by omega⟩
          · rw [h0] at g1 ⊢
            exact g1
          · obtain ⟨b, o, e, h1, h2, h3⟩ := g3 i hi
            exact ⟨b, o, e, h1, fun _ => h2, h3⟩
        clear h0
        go_wp2
        go_meet
        case rel => exact ⟨_, HX⟩
      | some ad =>
        have hmk := make_qs ts.length hl2 wc
        have hfm := HCC.out.1.alloc (.cells (madeCells #[.int .i64 0, .slice none 0 0, .slice none 0 0] (ts.length * 3)) 25)
        have hrw := row_alloc wc (madeCells #[.int .i64 0, .slice none 0 0, .slice none 0 0] (ts.length * 3))
        rw [size_madeCells] at hrw
        have hkm : ∀ k, k < wc.heap.size → (wc.alloc (.cells (madeCells #[.int .i64 0, .slice none 0 0, .slice none 0 0] (ts.length * 3)) 25)).heap[k]? = wc.heap[k]? := fun k hk => Below.heap_alloc _ _ _ hk
        obtain ⟨Wm, hWm⟩ : ∃ Wm, Wm = wc.alloc (.cells (madeCells #[.int .i64 0, .slice none 0 0, .slice none 0 0] (ts.length * 3)) 25) := ⟨_, rfl⟩
        rw [← hWm] at hmk hfm hrw hkm
        clear hWm
        obtain ⟨B, hB⟩ : ∃ B, B = wc.heap.size := ⟨_, rfl⟩
        have hBN : N + 1 + 1 < B := by have := HCC.out.1.size; omega
        rw [← hB] at hmk hrw hkm
        have HB : Hid (B = wc.heap.size) := hB
        clear hB
        have hf2 := hfm.set2 (some ⟨B, 0, none⟩) ts.length ts.length
        have FF : Filled n B ts 0 (Wm.setCell ⟨N + 1 + 1, 2, none⟩ (.slice (some ⟨B, 0, none⟩) ts.length ts.length)) (Wm.setCell ⟨N + 1 + 1, 2, none⟩ (.slice (some ⟨B, 0, none⟩) ts.length ts.length)) :=
          ⟨Only.refl _ _, hrw.of_block (Below.heap_setCell _ _ _ _ (by show B ≠ N + 1 + 1; omega)), fun j _ hj => by omega⟩
        obtain ⟨W2, hW2⟩ : ∃ W2, W2 = Wm.setCell ⟨N + 1 + 1, 2, none⟩ (.slice (some ⟨B, 0, none⟩) ts.length ts.length) := ⟨_, rfl⟩
        have hkk : ∀ k, N + 3 ≤ k → k < B → W2.heap[k]? = wc.heap[k]? := fun k h1 h2 => by
          rw [hW2, Below.heap_setCell _ _ _ _ (by show k ≠ N + 1 + 1; omega)]
          exact hkm k h2
        have HFm : Hid (Fr N w Wm ⟨ta, va, ss.length, vc, some ad, ts.length, ic⟩ ⟨ta, va', ss.length, vc', none, 0, 0⟩) := hfm
        have HF2 : Hid (Fr N w W2 ⟨ta, va, ss.length, vc, some ad, ts.length, ic⟩ ⟨ta, va', ss.length, vc', some ⟨B, 0, none⟩, ts.length, ts.length⟩) := by rw [hW2]; exact hf2
        rw [← hW2] at FF
        have HFF : Hid (Filled n B ts 0 W2 W2) := FF
        have HKK : Hid (∀ k, N + 3 ≤ k → k < B → W2.heap[k]? = wc.heap[k]?) := hkk
        have HW2 : Hid (W2 = Wm.setCell ⟨N + 1 + 1, 2, none⟩ (.slice (some ⟨B, 0, none⟩) ts.length ts.length)) := hW2
        clear hf2 hfm hW2 FF hrw hkm hkk
        have x2 := HFm.out.2.2.2.1.2.2
        have x3 := HFm.out.2.2.2.2.frozen 2
        have x4 := HF2.out.2.1.2.2
        simp only at x2 x3 x4
        rw [HW2.out] at x4
        go_wp2
        rw [← HW2.out]
        clear x1 x2 x3 x4 hmk
        simp only [Option.isSome_some]
        go_loopw [44] (fun s wr => ∃ i : Nat, i ≤ ts.length ∧ s = .int .i64 i ∧ Hid (Filled n B ts i W2 wr)) (fun s _ => ts.length - (intOf s).toNat)
        case atStart => exact ⟨0, Nat.zero_le _, rfl, HFF⟩
        case round =>
          obtain ⟨i, hi, rfl, HR⟩ := hrel
          by_cases hlt : i < ts.length
          · obtain ⟨b1, o1, c0, e, _, _, y, i0⟩ := HA.out i hlt
            have fr := HF2.out.only HR.out.1 HNw.out hBN
            have B3 : Below w.heap.size w wr := by rw [HNw.out]; exact fr.1
            have hb1 : b1 ≠ B := by have := y.lt; have := HNw.out; omega
            have HK1 : Hid (Held5 wr.drew N (N + 1 + 1) b1 (o1 + i * 3) (.slice (some ⟨b1, o1, none⟩) ts.length ic) (.slice (some ⟨B, 0, none⟩) ts.length ts.length) c0) := by
              have y' := y.below B3
              have x1 := fr.2.1.2.2
              have x2 := fr.2.2.2.1.2.2
              simp only [e] at x1 x2
              exact ⟨x1, x2, y'.1, y'.2.1, y'.2.2⟩
            have HI : Hid (Calls Yba.prog 5 #[c0.val] wr.drew fun e w' => ∃ c : Qs, e = .returned c.val ∧ Is n wr.drew.heap.size true w' c ts[i] ∧ Below wr.drew.heap.size wr.drew w') := by
              refine IH.out c0 ts[i] wr.drew ?_ (i0.below B3.drew)
              have := count_get ts i hlt
              have := HS.out
              omega
            clear y i0 fr B3 e
            go_wp2
            go_region_held3 (fun w' => w'.cell? ⟨N, 2, none⟩ = some (.slice (some ⟨b1, o1, none⟩) ts.length ic) ∧ w'.cell? ⟨N + 1 + 1, 2, none⟩ = some (.slice (some ⟨B, 0, none⟩) ts.length ts.length) ∧
              w'.cell? ⟨b1, o1 + i * 3, none⟩ = some (.int .i64 c0.t) ∧ w'.cell? ⟨b1, o1 + i * 3 + 1, none⟩ = some (.slice c0.va c0.vl c0.vc) ∧ w'.cell? ⟨b1, o1 + i * 3 + 2, none⟩ = some (.slice c0.ia c0.il c0.ic))
              (first | exact HK1.out | exact HK2.out | exact HK3.out)
              (first | (go_at_call 5; refine HI.out.mono ?_; rintro e w2 ⟨⟨ct, cva, cvl, cvc, cia, cil, cic⟩, rfl, hI2, hb⟩
                        have HK2 : Hid (Held5 w2 N (N + 1 + 1) b1 (o1 + i * 3) (.slice (some ⟨b1, o1, none⟩) ts.length ic) (.slice (some ⟨B, 0, none⟩) ts.length ts.length) c0) := HK1.out.below hb
                        have HX : Hid (Filled n B ts (i + 1) W2 (put3 w2 B (i * 3) ⟨ct, cva, cvl, cvc, cia, cil, cic⟩)) := HR.out.drew.next hlt hb hI2
                        have HK3 : Hid (Held5 (put3 w2 B (i * 3) ⟨ct, cva, cvl, cvc, cia, cil, cic⟩) N (N + 1 + 1) b1 (o1 + i * 3) (.slice (some ⟨b1, o1, none⟩) ts.length ic) (.slice (some ⟨B, 0, none⟩) ts.length ts.length) c0) := HK2.out.puts _ _ _ (by omega) (by omega) hb1
                        have hrow : RowOf w2 B (ts.length * 3) := HR.out.drew.2.1.of_block (hb.block B HR.out.drew.2.1.lt)
                        obtain ⟨v0, g0⟩ := hrow.cell (i * 3) (by omega)
                        obtain ⟨v1, g1⟩ := hrow.cell (i * 3 + 1) (by omega)
                        obtain ⟨v2, g2⟩ := hrow.cell (i * 3 + 2) (by omega)
                        have f0 := hrow.frozen (i * 3)
                        have f1 := hrow.frozen (i * 3 + 1)
                        have f2 := hrow.frozen (i * 3 + 2)
                        clear hrow hb hI2
                        simp only [Qs.val]))
            clear g0 g1 g2 f0 f1 f2 HK1 HK2 HK3
            go_wp2
            go_roundw
            case rel => exact ⟨i + 1, by omega, by go_num, HX⟩
            case measure => simp [intOf]; omega
          · obtain rfl : i = ts.length := by omega
            have HX : Cp2 n N w wr ⟨ta, va, ss.length, vc, some ad, ts.length, ic⟩ ss ts ⟨ta, va', ss.length, vc', some ⟨B, 0, none⟩, ts.length, ts.length⟩ := by
              obtain ⟨g1, g2, g3⟩ := HCC.out
              obtain ⟨r1, r2, r3⟩ := HR.out
              have hBs : B < W2.heap.size := HFF.out.2.1.lt
              have st : Strs (N + 3) wr va' ss := g3.keep fun k h1 h2 => (r1.2.2.2.2 k (by have := HB.out; omega) (by have := HB.out; omega)).trans (HKK.out k h1 (by rw [HB.out]; exact h2))
              refine ⟨HF2.out.only r1 HNw.out hBN, rfl, g2, rfl, fun i hi => ?_, rfl, rfl, fun i hi => ?_⟩
              · obtain ⟨b, o, e, h1, h2, h3⟩ := st i hi
                exact ⟨b, o, e, h1, fun _ => h2, h3⟩
              · obtain ⟨c, h1, h2⟩ := r3 i hi hi
                refine ⟨B, 0, c, rfl, by omega, fun _ => ⟨r2.frozen _, r2.frozen _, r2.frozen _⟩, ?_, h2.weaken (by omega) fun z => z⟩
                rw [Nat.zero_add]
                exact h1
            go_wp2
            go_meet
            case rel => exact ⟨_, HX⟩
    case rest =>
      clear x1 HCC
      obtain ⟨c, HX⟩ := hcut
      obtain ⟨ct, cva, cvl, cvc, cia, cil, cic⟩ := c
      obtain ⟨⟨h1, h2, h3, h4, h5⟩, hI⟩ := HX
      obtain ⟨v0, g0⟩ := h3.cell 0 (by omega)
      obtain ⟨v1, g1⟩ := h3.cell 1 (by omega)
      obtain ⟨v2, g2⟩ := h3.cell 2 (by omega)
      have f0 := h3.frozen 0
      have f1 := h3.frozen 1
      have f2 := h3.frozen 2
      obtain ⟨k0, k1, k2⟩ := h4
      simp only at k0 k1 k2
      have HY : Hid (Is (n + 1) N true (put3 wc (N + 1) 0 ⟨ct, cva, cvl, cvc, cia, cil, cic⟩) ⟨ct, cva, cvl, cvc, cia, cil, cic⟩ (mk ta nv ss ni ts) ∧ Below N w (put3 wc (N + 1) 0 ⟨ct, cva, cvl, cvc, cia, cil, cic⟩)) := by
        have hI2 := (hI.keep fun k hk _ => put3_block wc (N + 1) 0 ⟨ct, cva, cvl, cvc, cia, cil, cic⟩ k (by omega)).weaken (L' := N) (by omega) (fun z => z)
        simp only [HN.out.1, HN.out.2] at hI2
        exact ⟨hI2, Below.puts h1 _ _ _ (by omega)⟩
      have HZ : Hid (At (put3 wc (N + 1) 0 ⟨ct, cva, cvl, cvc, cia, cil, cic⟩) (N + 1) 0 ⟨ct, cva, cvl, cvc, cia, cil, cic⟩) := put3_same h3 0 (by omega) _
      clear h1 h2 h3 h5 hI
      go_wp2
      refine ret_cell Yba.results5 rfl HZ.out ⟨⟨ct, cva, cvl, cvc, cia, cil, cic⟩, rfl, ?_⟩
      rw [HNw.out]
      exact HY.out

theorem copy_all : ∀ n, CopyAt n
  | 0 => fun _ _ _ _ h => h.elim
  | n + 1 => copy_step n (copy_all n)
end Go.Proofs.Ybulkdvsy
