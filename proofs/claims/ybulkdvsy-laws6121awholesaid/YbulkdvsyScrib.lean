/-
  zzs6121ascribble (9): it writes at block B and above alone; slices' cells stand.
-/
import Derived.Test.YbulkdvsyBase
import Derived.Deep.QuietTactic
import Derived.BigQuiet
import Derived.Deep.RegionHeld3
namespace Go.Proofs.Ybulkdvsy
open Go.RowKit

/-- The set q, of T's shape, lies at block B and above, may be written, its strings are of at most M bytes. -/
def Own : (n : Nat) → Nat → Nat → World → Qs → Tree n → Prop
  | 0, _, _, _, _, _ => False
  | n + 1, B, M, w, q, (_, (_, ss), (_, ts)) => q.vl = ss.length ∧
      (∀ i, i < ss.length → ∃ b o s, q.va = some ⟨b, o, none⟩ ∧ B ≤ b ∧ w.frozen? ⟨b, o + i, none⟩ = false ∧ w.cell? ⟨b, o + i, none⟩ = some (.string s) ∧ s.size ≤ M) ∧
      q.il = ts.length ∧
      (∀ i (h : i < ts.length), ∃ b o c, q.ia = some ⟨b, o, none⟩ ∧ B ≤ b ∧ Free3 w b (o + i * 3) ∧ At w b (o + i * 3) c ∧ Own n B M w c ts[i])

/-- Slices' cells stand; an int stays an int, a string a string, longer by at most k. -/
def Keeps (k : Nat) (w w' : World) : Prop := (∀ p, w'.frozen? p = w.frozen? p) ∧ (∀ p a l c, w.cell? p = some (.slice a l c) → w'.cell? p = some (.slice a l c)) ∧
  (∀ p t, w.cell? p = some (.int .i64 t) → ∃ t', w'.cell? p = some (.int .i64 t')) ∧ (∀ p s, w.cell? p = some (.string s) → ∃ s' : ByteArray, w'.cell? p = some (.string s') ∧ s'.size ≤ s.size + k)

theorem Keeps.refl (w : World) : Keeps 0 w w := ⟨fun _ => rfl, fun _ _ _ _ h => h, fun _ t h => ⟨t, h⟩, fun _ s h => ⟨s, h, Nat.le_refl _⟩⟩
theorem Keeps.drew {k : Nat} {w w' : World} (h : Keeps k w w') : Keeps k w w'.drew := h
theorem Keeps.mono {k k' : Nat} {w w' : World} (h : Keeps k w w') (hk : k ≤ k') : Keeps k' w w' :=
  ⟨h.1, h.2.1, h.2.2.1, fun p s e => by
    obtain ⟨s', a, b⟩ := h.2.2.2 p s e
    exact ⟨s', a, by omega⟩⟩
theorem Keeps.trans {k j : Nat} {a b c : World} (h : Keeps k a b) (g : Keeps j b c) : Keeps (k + j) a c :=
  ⟨fun p => (g.1 p).trans (h.1 p), fun p x l y e => g.2.1 p x l y (h.2.1 p x l y e), fun p t e => by
    obtain ⟨t', ht⟩ := h.2.2.1 p t e
    exact g.2.2.1 p t' ht, fun p s e => by
    obtain ⟨s', hs, hl⟩ := h.2.2.2 p s e
    obtain ⟨s2, hs2, hl2⟩ := g.2.2.2 p s' hs
    exact ⟨s2, hs2, by omega⟩⟩
theorem Keeps.setInt {k : Nat} {a w : World} (h : Keeps k a w) {p : Addr} {t : Int} (hp : w.cell? p = some (.int .i64 t)) (t' : Int) : Keeps k a (w.setCell p (.int .i64 t')) := by
  have : Keeps 0 w (w.setCell p (.int .i64 t')) := by
    refine ⟨fun x => by simp, fun x b l c e => ?_, fun x u e => ?_, fun x s e => ?_⟩
    · rw [World.cell?_setCell_other _ _ _ _ (fun he => by subst he; rw [hp] at e; cases e)]; exact e
    · by_cases he : p = x
      · subst he; exact ⟨t', World.cell?_setCell_same _ _ _ hp⟩
      · exact ⟨u, (World.cell?_setCell_other _ _ _ _ he).trans e⟩
    · exact ⟨s, (World.cell?_setCell_other _ _ _ _ (fun he => by subst he; rw [hp] at e; cases e)).trans e, Nat.le_refl _⟩
  simpa using h.trans this
theorem Keeps.setStr {k : Nat} {a w : World} (h : Keeps k a w) {p : Addr} {s0 s1 : ByteArray} (hp : w.cell? p = some (.string s0)) (hs : s1.size ≤ s0.size + 1) : Keeps (k + 1) a (w.setCell p (.string s1)) := by
  refine h.trans ⟨fun x => by simp, fun x b l c e => ?_, fun x u e => ?_, fun x s e => ?_⟩
  · rw [World.cell?_setCell_other _ _ _ _ (fun he => by subst he; rw [hp] at e; cases e)]; exact e
  · exact ⟨u, (World.cell?_setCell_other _ _ _ _ (fun he => by subst he; rw [hp] at e; cases e)).trans e⟩
  · by_cases he : p = x
    · subst he
      rw [hp] at e
      cases e
      exact ⟨s1, World.cell?_setCell_same _ _ _ hp, hs⟩
    · exact ⟨s, (World.cell?_setCell_other _ _ _ _ he).trans e, by omega⟩

theorem At.keeps {k : Nat} {w w' : World} {b o : Nat} {q : Qs} (h : At w b o q) (hk : Keeps k w w') : ∃ t', At w' b o ⟨t', q.va, q.vl, q.vc, q.ia, q.il, q.ic⟩ := by
  obtain ⟨t', ht⟩ := hk.2.2.1 _ _ h.1
  exact ⟨t', ht, hk.2.1 _ _ _ _ h.2.1, hk.2.1 _ _ _ _ h.2.2⟩
theorem Free3.keeps {k : Nat} {w w' : World} {b o : Nat} (h : Free3 w b o) (hk : Keeps k w w') : Free3 w' b o := ⟨(hk.1 _).trans h.1, (hk.1 _).trans h.2.1, (hk.1 _).trans h.2.2⟩

/-- The threshold does not matter. -/
theorem Own.other : ∀ {n B M : Nat} {w : World} {q : Qs} {T : Tree n} (t' : Int), Own n B M w q T → Own n B M w ⟨t', q.va, q.vl, q.vc, q.ia, q.il, q.ic⟩ T
  | 0, _, _, _, _, _, _, h => h
  | _ + 1, _, _, _, _, (_, (_, _), (_, _)), _, h => h

theorem Own.keeps : ∀ {n B M k : Nat} {w w' : World} {q : Qs} {T : Tree n}, Own n B M w q T → Keeps k w w' → Own n B (M + k) w' q T
  | 0, _, _, _, _, _, _, _, h, _ => h
  | n + 1, B, M, k, w, w', q, (t, (nv, ss), (ni, ts)), h, hk => by
    obtain ⟨h1, h2, h3, h4⟩ := h
    refine ⟨h1, fun i hi => ?_, h3, fun i hi => ?_⟩
    · obtain ⟨b, o, s, e, hb, hf, hc, hs⟩ := h2 i hi
      obtain ⟨s', hc', hs'⟩ := hk.2.2.2 _ _ hc
      exact ⟨b, o, s', e, hb, (hk.1 _).trans hf, hc', by omega⟩
    · obtain ⟨b, o, c, e, hb, hf, hc, hO⟩ := h4 i hi
      obtain ⟨t', ht⟩ := hc.keeps hk
      exact ⟨b, o, _, e, hb, hf.keeps hk, ht, (Own.keeps hO hk).other t'⟩

theorem Own.parts {n B M : Nat} {w : World} {q : Qs} {t : Int} {nv ni : Bool} {ss : List ByteArray} {ts : List (Tree n)} (h : Own (n + 1) B M w q (mk t nv ss ni ts)) : q.vl = ss.length ∧
      (∀ i, i < ss.length → ∃ b o s, q.va = some ⟨b, o, none⟩ ∧ B ≤ b ∧ w.frozen? ⟨b, o + i, none⟩ = false ∧ w.cell? ⟨b, o + i, none⟩ = some (.string s) ∧ s.size ≤ M) ∧
      q.il = ts.length ∧
      (∀ i (h : i < ts.length), ∃ b o c, q.ia = some ⟨b, o, none⟩ ∧ B ≤ b ∧ Free3 w b (o + i * 3) ∧ At w b (o + i * 3) c ∧ Own n B M w c ts[i]) := h

theorem Own.len_le {n B M : Nat} {w : World} {q : Qs} {t : Int} {nv ni : Bool} {ss : List ByteArray} {ts : List (Tree n)} (h : Own (n + 1) B M w q (mk t nv ss ni ts)) : ts.length ≤ (ts.map (count n)).sum := by
  cases n with
  | succ n => exact length_le_sum n ts
  | zero =>
    rcases Nat.eq_zero_or_pos ts.length with h0 | h0
    · omega
    · obtain ⟨_, _, _, _, _, _, _, h⟩ := h.parts.2.2.2 0 h0
      exact h.elim

def ScribAt (n : Nat) : Prop := ∀ (q : Qs) (T : Tree n) (w : World) (B M b o : Nat), Own n B M w q T → At w b o q → B ≤ b → Free3 w b o → M + count n T ≤ 1152921504606846976 →
  Calls Yba.prog 9 #[.pointer (some ⟨b, o, none⟩)] w fun e w' => e = .returned (.tuple #[]) ∧ Below B w w' ∧ Keeps (count n T) w w'

set_option maxHeartbeats 1000000 in
set_option maxRecDepth 100000 in
theorem scrib_step (n : Nat) (IH : Hid (ScribAt n)) : ScribAt (n + 1) := by
  intro q T w B M b o hO hA hb hF hM
  obtain ⟨t, nv, ss, ni, ts, rfl⟩ := mk_of T
  have hil := hO.len_le
  obtain ⟨p1, _, p3, _⟩ := hO.parts
  obtain ⟨t0, va, vl, vc, ia, il, ic⟩ := q
  simp only at p1 p3
  subst p1 p3
  have HOO : Hid (Own (n + 1) B M w ⟨t0, va, ss.length, vc, ia, ts.length, ic⟩ (mk t nv ss ni ts)) := hO
  rw [count_mk] at hM ⊢
  have HS : Hid (M + (1 + ss.length + (ts.map (count n)).sum) ≤ 1152921504606846976) := hM
  have hl1 : ss.length ≤ 1152921504606846976 := by omega
  have hl2 : ts.length ≤ 1152921504606846976 := by omega
  have hM2 : M + ss.length + 1 ≤ 1152921504606846976 := by omega
  clear hM hil hO
  obtain ⟨c0, c1, c2⟩ := hA
  obtain ⟨f0, f1, f2⟩ := hF
  have HA : Hid (At w b o ⟨t0, va, ss.length, vc, ia, ts.length, ic⟩) := ⟨c0, c1, c2⟩
  simp only at c0 c1 c2
  go_enter Yba.func9, Yba.ntmps9
  go_wp2
  obtain ⟨W1, hW1⟩ : ∃ W1, W1 = w.setCell ⟨b, o, none⟩ (.int .i64 (wrap64 (t0 + 1))) := ⟨_, rfl⟩
  rw [← hW1]
  have HK1 : Hid (Below B w W1 ∧ Keeps 0 w W1) := by
    rw [hW1]
    exact ⟨(Below.refl _ _).setCell hb _, (Keeps.refl w).setInt c0 _⟩
  clear hW1 c0 c1 c2 f0 f1 f2
  go_loopw [16] (fun s wr => ∃ i : Nat, i ≤ ss.length ∧ s = .int .i64 i ∧ Hid (Below B w wr ∧ Keeps i w wr)) (fun s _ => ss.length - (intOf s).toNat)
  case atStart => exact ⟨0, Nat.zero_le _, rfl, HK1⟩
  case round =>
    clear HK1
    obtain ⟨i, hi, rfl, HR⟩ := hrel
    obtain ⟨t1, ca, cb, cc⟩ := HA.out.keeps HR.out.2
    simp only at ca cb cc
    by_cases hlt : i < ss.length
    · obtain ⟨bs, os, s, e, hbs, hfs, hcs, hsz⟩ := (HOO.out.keeps HR.out.2).parts.2.1 i hlt
      simp only at e
      rw [e] at cb
      clear e ca cc
      have hs1 : (s.size : Int) + 1 ≤ 1152921504606846976 := by omega
      have HX : Hid (Below B w ((wr.setCell ⟨bs, os + i, none⟩ (.string (s ++ ⟨#[35]⟩))).drew) ∧ Keeps (i + 1) w ((wr.setCell ⟨bs, os + i, none⟩ (.string (s ++ ⟨#[35]⟩))).drew)) := by
        refine ⟨(HR.out.1.setCell hbs _).drew, (HR.out.2.setStr hcs ?_).drew⟩
        rw [ByteArray.size_append]
        exact Nat.le_refl _
      clear hsz
      go_wp2
      go_region
      go_wp2
      go_roundw
      case rel => exact ⟨i + 1, by omega, by go_num, HX⟩
      case measure => simp [intOf]; omega
    · obtain rfl : i = ss.length := by omega
      clear ca cb
      go_wp2
      go_loopw [39] (fun s wr => ∃ i : Nat, i ≤ ts.length ∧ s = .int .i64 i ∧ Hid (Below B w wr ∧ Keeps (ss.length + ((ts.map (count n)).take i).sum) w wr)) (fun s _ => ts.length - (intOf s).toNat)
      case atStart => exact ⟨0, Nat.zero_le _, rfl, by simpa using HR⟩
      case round =>
        clear HR cc
        obtain ⟨j, hj, rfl, HR⟩ := hrel
        obtain ⟨t2, ca, cb, cc⟩ := HA.out.keeps HR.out.2
        simp only at ca cb cc
        clear ca cb
        by_cases hjl : j < ts.length
        · obtain ⟨bi, oi, c, e, hbi, hfi, hai, hoi⟩ := (HOO.out.keeps HR.out.2).parts.2.2.2 j hjl
          simp only at e
          rw [e] at cc
          have hs := sum_next (ts.map (count n)) j (by simpa using hjl)
          have hp := sum_part (ts.map (count n)) j (by simpa using hjl)
          rw [List.getElem_map] at hs hp
          have HI : Hid (Calls Yba.prog 9 #[.pointer (some ⟨bi, oi + j * 3, none⟩)] wr fun e w' => e = .returned (.tuple #[]) ∧ Below B wr w' ∧ Keeps (count n ts[j]) wr w') := by
            refine IH.out c ts[j] wr B _ bi (oi + j * 3) hoi hai hbi hfi ?_
            have := HS.out
            omega
          have Hs : Hid (((ts.map (count n)).take (j + 1)).sum = ((ts.map (count n)).take j).sum + count n ts[j]) := hs
          clear e hbi hfi hai hoi hs hp
          go_wp2_with fail
          refine HI.out.mono ?_
          rintro e w2 ⟨rfl, hb2, hk2⟩
          have HR2 : Hid (Below B w w2 ∧ Keeps (ss.length + ((ts.map (count n)).take (j + 1)).sum) w w2) := by
            refine ⟨HR.out.1.trans hb2, ?_⟩
            rw [Hs.out, ← Nat.add_assoc]
            exact HR.out.2.trans hk2
          clear hb2 hk2 cc
          go_wp2
          go_roundw
          case rel => exact ⟨j + 1, by omega, by go_num, HR2⟩
          case measure => simp [intOf]; omega
        · obtain rfl : j = ts.length := by omega
          go_wp2
          go_end0
          have hR := HR.out
          rw [show (ts.map (count n)).take ts.length = ts.map (count n) from by rw [show ts.length = (ts.map (count n)).length by simp]; exact List.take_length] at hR
          exact ⟨rfl, hR.1, hR.2.mono (by omega)⟩

theorem scrib_all : ∀ n, ScribAt n
  | 0 => fun _ _ _ _ _ _ _ h => h.elim
  | n + 1 => scrib_step n (scrib_all n)
end Go.Proofs.Ybulkdvsy
