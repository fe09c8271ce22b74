/-
  cloneQuorumSet (6): a set that holds the same tree, every slice there, in blocks of the call's own.
-/
import Derived.Test.YbulkdvsyFill
import Derived.Deep.QuietTactic
import Derived.BigQuiet
import Derived.Deep.RegionHeld3
import Derived.Deep.RegionLawGrows
import Derived.Deep.DeepCutAuto
import Derived.Lib.SliceRun
namespace Go.Proofs.Ybulkdvsy
open Go.RowKit

/-- The strings ss, from the head of block b on, free to be written. -/
def StrRow (w : World) (b : Nat) (ss : List ByteArray) : Prop := ∀ i (h : i < ss.length), w.frozen? ⟨b, i, none⟩ = false ∧ w.cell? ⟨b, i, none⟩ = some (.string ss[i])

theorem StrRow.of_block {w w' : World} {b : Nat} {ss : List ByteArray} (h : StrRow w b ss) (e : w'.heap[b]? = w.heap[b]?) : StrRow w' b ss := fun i hi =>
  ⟨(World.frozen?_of_block (w := w) e).trans (h i hi).1, (World.cell?_of_block (w := w) e).trans (h i hi).2⟩

/-- 'append([]string{}, x...)'. -/
theorem run_clone (ty e : Nat) (va : Option Addr) (c : Nat) (ss : List ByteArray) (w : World) (he : e < w.heap.size) (hl : ss.length ≤ 65536)
    (hst : ∀ i (h : i < ss.length), ∃ b o, va = some ⟨b, o, none⟩ ∧ w.cell? ⟨b, o + i, none⟩ = some (.string ss[i])) :
    ∃ bv vc w', (Builtin.append_ #[22, 22] ty #[.slice (some ⟨e, 0, none⟩) 0 0, .slice va ss.length c]).run Yba.prog w = .ok (.slice (some ⟨bv, 0, none⟩) ss.length vc) w' ∧ Below w.heap.size w w' ∧
      (bv = e ∨ w.heap.size ≤ bv) ∧ bv < w'.heap.size ∧ StrRow w' bv ss := by
  rcases Nat.eq_zero_or_pos ss.length with h0 | h0
  · refine ⟨e, 0, w, ?_, Below.refl _ _, .inl rfl, he, fun i hi => by omega⟩
    rw [h0]
    cases va with
    | none =>
      obtain ⟨i0, hi0, hz⟩ := Option.map_eq_some_iff.1 Yba.info9
      simp [Builtin.append_, run_underlying Yba.underlying22, sizeOf, typeInfo, hi0, Builtin.lenOf, Builtin.firstCells, storeCells]
    | some a =>
      obtain ⟨i0, hi0, hz⟩ := Option.map_eq_some_iff.1 Yba.info9
      have := run_append_room_cells (P := Yba.prog) w 22 ty 9 i0 Yba.underlying22 hi0 e 0 0 0 a 0 c [] (by simp) (fun j u h => by simp at h) (fun u h => by simp at h) (by omega) (fun j h => by simp at h) (fun j h => by simp at h)
      exact this
  · obtain ⟨b, o, rfl, _⟩ := hst 0 h0
    obtain ⟨i0, hi0, hz⟩ := Option.map_eq_some_iff.1 Yba.info9
    simp only [Prod.mk.injEq] at hz
    obtain ⟨z0, z1, z2⟩ := hz
    obtain ⟨v', w', hrun, hown, hg⟩ := run_append_arg_grows (P := Yba.prog) w 22 ty 9 i0 (.string ⟨#[]⟩) 1 16 Yba.underlying22 hi0 z0 z1 z2 rfl (by decide) ⟨e, 0, none⟩ 0 0 [] rfl (fun j u h => by simp at h)
      ⟨b, o, none⟩ ss.length c (ss.map Value.string) (by simp) (fun j u hj => by
        have hjl : j < ss.length := by
          have := (List.getElem?_eq_some_iff.1 hj).1
          simpa using this
        obtain ⟨b', o', e1, hc⟩ := hst j hjl
        cases e1
        rw [Go.WideShapes.add_plain, hc, ← hj]
        simp [List.getElem?_eq_getElem hjl]) (by omega) (by unfold maxLen; omega) (by omega)
    rw [Nat.zero_add, List.nil_append] at hown
    rcases hown.2 with ⟨_, h⟩ | ⟨g, cap, cur, rfl, hb, hgb, _, _, hcs, htake⟩
    · omega
    · refine ⟨g, cap, w', hrun, ⟨hg.os, hg.tape, hg.output, hg.size, fun k hk => hg.block k hk (by simp)⟩, .inr hb, (Array.getElem?_eq_some_iff.1 hgb).1, fun i hi => ⟨by simp [World.frozen?, hgb], ?_⟩⟩
      have := hown.cells (g := g) rfl i (.string ss[i]) (by simp [List.getElem?_eq_getElem hi])
      rw [Go.WideShapes.add_plain] at this
      simpa using this

theorem step_clone {ops : Array Oper} {o : Oper} {a : Act} {w : World} {K : Act → World → Prop} {Q : Exit → Act → World → Prop} {E : Prop} (hg : o.guard = none) (s x : Operand)
    (hop : o.op = Op.call { callee := Callee.builtin Builtin.append, args := #[s, x], argTypes := #[22, 22] }) (e : Nat) (va : Option Addr) (c : Nat) (ss : List ByteArray)
    (hs : a.eval s = .slice (some ⟨e, 0, none⟩) 0 0) (hx : a.eval x = .slice va ss.length c) (he : e < w.heap.size) (hl : ss.length ≤ 65536)
    (hst : ∀ i (h : i < ss.length), ∃ b o, va = some ⟨b, o, none⟩ ∧ w.cell? ⟨b, o + i, none⟩ = some (.string ss[i]))
    (hK : ∀ bv vc w', Below w.heap.size w w' → (bv = e ∨ w.heap.size ≤ bv) → bv < w'.heap.size → StrRow w' bv ss → K (a.put o.dst (.slice (some ⟨bv, 0, none⟩) ss.length vc)) w') :
    if Region.wanted o (yielded ops a.tmps) = true then Oper.wp Yba.prog o a w K Q else E := by
  have hw : Region.wanted o (yielded ops a.tmps) = true := by simp [Region.wanted, hg]
  rw [if_pos hw]
  obtain ⟨bv, vc, w', hrun, h1, h2, h3, h4⟩ := run_clone o.type e va c ss w he hl hst
  unfold Oper.wp
  simp [execOp, hop, resolve, invoke, builtin, hs, hx, hrun, Result.andThen]
  exact hK bv vc w' h1 h2 h3 h4

theorem RowOf.new (w : World) (C : Array Value) (b m : Nat) (hb : b = w.heap.size) (hm : C.size = m) : RowOf (w.alloc (.cells C 25)) b m := by
  subst hb hm
  exact row_alloc w C
theorem RowOf.alloc {w : World} {b m : Nat} (h : RowOf w b m) (o : Obj) : RowOf (w.alloc o) b m := h.of_block (Below.heap_alloc _ _ _ h.lt)
theorem RowOf.drew {w : World} {b m : Nat} (h : RowOf w b m) : RowOf w.drew b m := h
theorem RowOf.set1 {w : World} {b m : Nat} (h : RowOf w b m) (p : Addr) (v : Value) (hp : b ≠ p.block) : RowOf (w.setCell p v) b m := h.of_block (Below.heap_setCell _ _ _ _ hp)
theorem At.new (w : World) (b : Nat) (c : Qs) (hb : b = w.heap.size) : At (w.alloc (.cells #[.int .i64 c.t, .slice c.va c.vl c.vc, .slice c.ia c.il c.ic] 25)) b 0 c := by
  subst hb
  exact boxed w c
theorem At.alloc {w : World} {b o : Nat} {c : Qs} (h : At w b o c) (ob : Obj) : At (w.alloc ob) b o c := h.of_block (Below.heap_alloc _ _ _ h.lt)
theorem StrRow.alloc {w : World} {b : Nat} {ss : List ByteArray} (h : StrRow w b ss) (ob : Obj) (hb : b < w.heap.size) : StrRow (w.alloc ob) b ss := h.of_block (Below.heap_alloc _ _ _ hb)
theorem StrRow.set {w : World} {b : Nat} {ss : List ByteArray} (h : StrRow w b ss) (p : Addr) (v : Value) (hp : b ≠ p.block) : StrRow (w.setCell p v) b ss := h.of_block (Below.heap_setCell _ _ _ _ hp)

theorem put3_far {w : World} {b m B : Nat} (h : RowOf w b m) (hb : b ≠ B) (o : Nat) (c : Qs) : RowOf (put3 w B o c) b m := h.of_block (put3_block _ _ _ _ _ hb)
theorem put3_strs {w : World} {b B : Nat} {ss : List ByteArray} (h : StrRow w b ss) (hb : b ≠ B) (o : Nat) (c : Qs) : StrRow (put3 w B o c) b ss := h.of_block (put3_block _ _ _ _ _ hb)

theorem Filled.alloc {n B : Nat} {ts : List (Tree n)} {i : Nat} {wm wr : World} (h : Filled n B ts i wm wr) (o : Obj) : Filled n B ts i wm (wr.alloc o) :=
  ⟨h.1.alloc o, h.2.1.alloc o, fun j hj hi => by
    obtain ⟨c, h1, h2⟩ := h.2.2 j hj hi
    exact ⟨c, h1.alloc o, h2.keep fun k _ hk => Below.heap_alloc _ _ _ hk⟩⟩

/-- The set laid in a new block; stored into a row; both as the walk writes them. -/
theorem At.new4 (w : World) (b : Nat) (t : Int) (va : Option Addr) (vl vc : Nat) (ia : Option Addr) (il ic : Nat) (hb : b = w.heap.size) : At (w.alloc (.cells #[.int .i64 t, .slice va vl vc, .slice ia il ic] 25)) b 0 ⟨t, va, vl, vc, ia, il, ic⟩ := At.new w b ⟨t, va, vl, vc, ia, il, ic⟩ hb
theorem At.put4 {w : World} {B : Nat} (h : RowOf w B 3) (t : Int) (va : Option Addr) (vl vc : Nat) (ia : Option Addr) (il ic : Nat) : At (((w.setCell ⟨B, 0, none⟩ (.int .i64 t)).setCell ⟨B, 1, none⟩ (.slice va vl vc)).setCell ⟨B, 2, none⟩ (.slice ia il ic)) B 0 ⟨t, va, vl, vc, ia, il, ic⟩ :=
  put3_same h 0 (by omega) ⟨t, va, vl, vc, ia, il, ic⟩
theorem RowOf.put4 {w : World} {b m B : Nat} (h : RowOf w b m) (hb : b ≠ B) (x y z : Value) : RowOf (((w.setCell ⟨B, 0, none⟩ x).setCell ⟨B, 1, none⟩ y).setCell ⟨B, 2, none⟩ z) b m :=
  ((h.set1 _ _ hb).set1 _ _ hb).set1 _ _ hb
theorem StrRow.put4 {w : World} {b B : Nat} {ss : List ByteArray} (h : StrRow w b ss) (hb : b ≠ B) (x y z : Value) : StrRow (((w.setCell ⟨B, 0, none⟩ x).setCell ⟨B, 1, none⟩ y).setCell ⟨B, 2, none⟩ z) b ss :=
  ((h.set _ _ hb).set _ _ hb).set _ _ hb
theorem size3 (x y z : Value) : (#[x, y, z] : Array Value).size = 3 := rfl
theorem size_put4 (w : World) (B : Nat) (x y z : Value) : (((w.setCell ⟨B, 0, none⟩ x).setCell ⟨B, 1, none⟩ y).setCell ⟨B, 2, none⟩ z).heap.size = w.heap.size := by simp [World.setCell]

/-- Behind the literal: the new set in block bc, its validators in block bv, its inner sets in block bi. -/
def Rl (N : Nat) (w wc : World) (q : Qs) (ss : List ByteArray) (il bc bv vcc bi : Nat) : Prop :=
  (Below N w wc ∧ At wc N 0 q ∧ RowOf wc (N + 1) 3) ∧ At wc bc 0 ⟨q.t, some ⟨bv, 0, none⟩, ss.length, vcc, some ⟨bi, 0, none⟩, il, il⟩ ∧ RowOf wc bi (il * 3) ∧ StrRow wc bv ss ∧
  N + 2 ≤ bc ∧ N + 2 ≤ bi ∧ N + 2 ≤ bv ∧ bc ≠ bi ∧ bv ≠ bi

/-- What the literal leaves, by the order in which its parts were made. -/
theorem rl_a {N : Nat} {w w1 : World} {t : Int} {va : Option Addr} {vl vc : Nat} {ia : Option Addr} {il0 ic : Nat} {ss : List ByteArray} {il bv vcc : Nat} {Z : Array Value} (q2 : StrRow w1 bv ss) (q4 : bv < w1.heap.size) (hs : N + 2 ≤ w1.heap.size) (hb : N + 2 ≤ bv)
    (hx : Below N w ((w1.alloc (.cells (madeCells Z (il * 3)) 25)).alloc (.cells #[.int .i64 t, .slice (some ⟨bv, 0, none⟩) ss.length vcc, .slice (some ⟨w1.heap.size, 0, none⟩) il il] 25)) ∧ At ((w1.alloc (.cells (madeCells Z (il * 3)) 25)).alloc (.cells #[.int .i64 t, .slice (some ⟨bv, 0, none⟩) ss.length vcc, .slice (some ⟨w1.heap.size, 0, none⟩) il il] 25)) N 0 ⟨t, va, vl, vc, ia, il0, ic⟩ ∧ RowOf ((w1.alloc (.cells (madeCells Z (il * 3)) 25)).alloc (.cells #[.int .i64 t, .slice (some ⟨bv, 0, none⟩) ss.length vcc, .slice (some ⟨w1.heap.size, 0, none⟩) il il] 25)) (N + 1) 3) :
    Rl N w ((w1.alloc (.cells (madeCells Z (il * 3)) 25)).alloc (.cells #[.int .i64 t, .slice (some ⟨bv, 0, none⟩) ss.length vcc, .slice (some ⟨w1.heap.size, 0, none⟩) il il] 25)) ⟨t, va, vl, vc, ia, il0, ic⟩ ss il (w1.heap.size + 1) bv vcc w1.heap.size :=
  ⟨hx, At.new4 _ _ _ _ _ _ _ _ _ (by simp), (RowOf.new _ _ _ _ rfl (size_madeCells _ _)).alloc _, (q2.alloc _ q4).alloc _ (by rw [size_alloc]; omega), by omega, by omega, hb, by omega, by omega⟩
theorem rl_b {N : Nat} {w w1 : World} {t : Int} {va : Option Addr} {vl vc : Nat} {ia : Option Addr} {il0 ic : Nat} {ss : List ByteArray} {il bv vcc : Nat} {Z : Array Value} (q2 : StrRow w1 bv ss) (q4 : bv < w1.heap.size) (hs : N + 2 ≤ w1.heap.size) (hb : N + 2 ≤ bv)
    (hx : Below N w ((w1.alloc (.cells #[.int .i64 t, .slice (some ⟨bv, 0, none⟩) ss.length vcc, .slice (some ⟨w1.heap.size + 1, 0, none⟩) il il] 25)).alloc (.cells (madeCells Z (il * 3)) 25)) ∧ At ((w1.alloc (.cells #[.int .i64 t, .slice (some ⟨bv, 0, none⟩) ss.length vcc, .slice (some ⟨w1.heap.size + 1, 0, none⟩) il il] 25)).alloc (.cells (madeCells Z (il * 3)) 25)) N 0 ⟨t, va, vl, vc, ia, il0, ic⟩ ∧ RowOf ((w1.alloc (.cells #[.int .i64 t, .slice (some ⟨bv, 0, none⟩) ss.length vcc, .slice (some ⟨w1.heap.size + 1, 0, none⟩) il il] 25)).alloc (.cells (madeCells Z (il * 3)) 25)) (N + 1) 3) :
    Rl N w ((w1.alloc (.cells #[.int .i64 t, .slice (some ⟨bv, 0, none⟩) ss.length vcc, .slice (some ⟨w1.heap.size + 1, 0, none⟩) il il] 25)).alloc (.cells (madeCells Z (il * 3)) 25)) ⟨t, va, vl, vc, ia, il0, ic⟩ ss il w1.heap.size bv vcc (w1.heap.size + 1) :=
  ⟨hx, (At.new4 _ _ _ _ _ _ _ _ _ rfl).alloc _, RowOf.new _ _ _ _ (by simp) (size_madeCells _ _), (q2.alloc _ q4).alloc _ (by rw [size_alloc]; omega), by omega, by omega, hb, by omega, by omega⟩
theorem rl_c {N : Nat} {w w1 : World} {t : Int} {va : Option Addr} {vl vc : Nat} {ia : Option Addr} {il0 ic : Nat} {ss : List ByteArray} {il bv vcc bi : Nat} (hr : RowOf w1 bi (il * 3)) (q2 : StrRow w1 bv ss) (q4 : bv < w1.heap.size) (hs : N + 2 ≤ w1.heap.size) (hb : N + 2 ≤ bv) (hi : N + 2 ≤ bi) (hn : bv ≠ bi)
    (hx : Below N w (w1.alloc (.cells #[.int .i64 t, .slice (some ⟨bv, 0, none⟩) ss.length vcc, .slice (some ⟨bi, 0, none⟩) il il] 25)) ∧ At (w1.alloc (.cells #[.int .i64 t, .slice (some ⟨bv, 0, none⟩) ss.length vcc, .slice (some ⟨bi, 0, none⟩) il il] 25)) N 0 ⟨t, va, vl, vc, ia, il0, ic⟩ ∧ RowOf (w1.alloc (.cells #[.int .i64 t, .slice (some ⟨bv, 0, none⟩) ss.length vcc, .slice (some ⟨bi, 0, none⟩) il il] 25)) (N + 1) 3) :
    Rl N w (w1.alloc (.cells #[.int .i64 t, .slice (some ⟨bv, 0, none⟩) ss.length vcc, .slice (some ⟨bi, 0, none⟩) il il] 25)) ⟨t, va, vl, vc, ia, il0, ic⟩ ss il w1.heap.size bv vcc bi :=
  ⟨hx, At.new4 _ _ _ _ _ _ _ _ _ rfl, hr.alloc _, q2.alloc _ q4, hs, hi, hb, by have := hr.lt; omega, hn⟩
theorem rl_d {N : Nat} {w w1 : World} {t : Int} {va : Option Addr} {vl vc : Nat} {ia : Option Addr} {il0 ic : Nat} {ss : List ByteArray} {il bc bv vcc bi : Nat} (hc : RowOf w1 bc 3) (hr : RowOf w1 bi (il * 3)) (q2 : StrRow w1 bv ss) (hcb : N + 2 ≤ bc) (hb : N + 2 ≤ bv) (hi : N + 2 ≤ bi) (hci : bc ≠ bi) (hn : bv ≠ bi) (hm : bv ≠ bc)
    (hx : Below N w (((w1.setCell ⟨bc, 0, none⟩ (.int .i64 t)).setCell ⟨bc, 1, none⟩ (.slice (some ⟨bv, 0, none⟩) ss.length vcc)).setCell ⟨bc, 2, none⟩ (.slice (some ⟨bi, 0, none⟩) il il)) ∧ At (((w1.setCell ⟨bc, 0, none⟩ (.int .i64 t)).setCell ⟨bc, 1, none⟩ (.slice (some ⟨bv, 0, none⟩) ss.length vcc)).setCell ⟨bc, 2, none⟩ (.slice (some ⟨bi, 0, none⟩) il il)) N 0 ⟨t, va, vl, vc, ia, il0, ic⟩ ∧ RowOf (((w1.setCell ⟨bc, 0, none⟩ (.int .i64 t)).setCell ⟨bc, 1, none⟩ (.slice (some ⟨bv, 0, none⟩) ss.length vcc)).setCell ⟨bc, 2, none⟩ (.slice (some ⟨bi, 0, none⟩) il il)) (N + 1) 3) :
    Rl N w (((w1.setCell ⟨bc, 0, none⟩ (.int .i64 t)).setCell ⟨bc, 1, none⟩ (.slice (some ⟨bv, 0, none⟩) ss.length vcc)).setCell ⟨bc, 2, none⟩ (.slice (some ⟨bi, 0, none⟩) il il)) ⟨t, va, vl, vc, ia, il0, ic⟩ ss il bc bv vcc bi :=
  ⟨hx, At.put4 hc _ _ _ _ _ _ _, hr.put4 (Ne.symm hci) _ _ _, q2.put4 hm _ _ _, hcb, hi, hb, hci, hn⟩
theorem rl_e {N : Nat} {w w1 : World} {t : Int} {va : Option Addr} {vl vc : Nat} {ia : Option Addr} {il0 ic : Nat} {ss : List ByteArray} {il bc bv vcc : Nat} {Z : Array Value} (hc : RowOf w1 bc 3) (q2 : StrRow w1 bv ss) (q4 : bv < w1.heap.size) (hs : N + 2 ≤ w1.heap.size) (hcb : N + 2 ≤ bc) (hb : N + 2 ≤ bv) (hm : bv ≠ bc)
    (hx : Below N w ((((w1.setCell ⟨bc, 0, none⟩ (.int .i64 t)).setCell ⟨bc, 1, none⟩ (.slice (some ⟨bv, 0, none⟩) ss.length vcc)).setCell ⟨bc, 2, none⟩ (.slice (some ⟨w1.heap.size, 0, none⟩) il il)).alloc (.cells (madeCells Z (il * 3)) 25)) ∧ At ((((w1.setCell ⟨bc, 0, none⟩ (.int .i64 t)).setCell ⟨bc, 1, none⟩ (.slice (some ⟨bv, 0, none⟩) ss.length vcc)).setCell ⟨bc, 2, none⟩ (.slice (some ⟨w1.heap.size, 0, none⟩) il il)).alloc (.cells (madeCells Z (il * 3)) 25)) N 0 ⟨t, va, vl, vc, ia, il0, ic⟩ ∧ RowOf ((((w1.setCell ⟨bc, 0, none⟩ (.int .i64 t)).setCell ⟨bc, 1, none⟩ (.slice (some ⟨bv, 0, none⟩) ss.length vcc)).setCell ⟨bc, 2, none⟩ (.slice (some ⟨w1.heap.size, 0, none⟩) il il)).alloc (.cells (madeCells Z (il * 3)) 25)) (N + 1) 3) :
    Rl N w ((((w1.setCell ⟨bc, 0, none⟩ (.int .i64 t)).setCell ⟨bc, 1, none⟩ (.slice (some ⟨bv, 0, none⟩) ss.length vcc)).setCell ⟨bc, 2, none⟩ (.slice (some ⟨w1.heap.size, 0, none⟩) il il)).alloc (.cells (madeCells Z (il * 3)) 25)) ⟨t, va, vl, vc, ia, il0, ic⟩ ss il bc bv vcc w1.heap.size :=
  ⟨hx, (At.put4 hc _ _ _ _ _ _ _).alloc _, RowOf.new _ _ _ _ (by rw [size_put4]) (size_madeCells _ _), (q2.put4 hm _ _ _).alloc _ (by rw [size_put4]; exact q4), hcb, hs, hb, by have := hc.lt; omega, by omega⟩

def CloneAt (n : Nat) : Prop := ∀ (q : Qs) (T : Tree n) (w : World), count n T ≤ 65536 → Is n 0 false w q T →
  Calls Yba.prog 6 #[q.val] w fun e w' => ∃ c : Qs, e = .returned c.val ∧ Is n w.heap.size true w' c (norm n T) ∧ Below w.heap.size w w'

set_option maxHeartbeats 2000000 in
set_option maxRecDepth 100000 in
theorem clone_step (n : Nat) (IH : Hid (CloneAt n)) : CloneAt (n + 1) := by
  intro q T w hc hI
  obtain ⟨t, nv, ss, ni, ts, rfl⟩ := mk_of T
  have hil := hI.len_le
  rw [count_mk] at hc
  obtain ⟨a1, a2, a3, a4, a5, a6, a7⟩ := hI.parts
  obtain ⟨ta, va, vl, vc, ia, il, ic⟩ := q
  simp only at a1 a2 a3 a4 a5 a6 a7
  subst a1 a3 a6
  have HS : Hid ((ts.map (count n)).sum ≤ 65536) := by show _ ≤ _; omega
  have hl1 : ss.length ≤ 65536 := by omega
  have hl2 : ts.length ≤ 65536 := by omega
  have HA : Hid (∀ i (h : i < ts.length), ∃ b o c, ia = some ⟨b, o, none⟩ ∧ 0 ≤ b ∧ (false = true → Free3 w b (o + i * 3)) ∧ At w b (o + i * 3) c ∧ Is n 0 false w c ts[i]) := a7
  have HA4 : Hid (∀ i (h : i < ss.length), ∃ b o, va = some ⟨b, o, none⟩ ∧ 0 ≤ b ∧ (false = true → w.frozen? ⟨b, o + i, none⟩ = false) ∧ w.cell? ⟨b, o + i, none⟩ = some (.string ss[i])) := a4
  clear hil hc a2 a5 a4 a7 hI
  simp only [Qs.val]
  go_enter Yba.func6, Yba.ntmps6
  go_wp2
  obtain ⟨N, hN⟩ : ∃ N, N = w.heap.size := ⟨_, rfl⟩
  obtain ⟨W1, hW1⟩ : ∃ W1, W1 = ((w.alloc (.cells #[.int .i64 ta, .slice va ss.length vc, .slice ia ts.length ic] 25)).alloc (.cells #[.int .i64 0, .slice none 0 0, .slice none 0 0] 25)) := ⟨_, rfl⟩
  rw [← hW1]
  have k1 : At W1 w.heap.size 0 ⟨ta, va, ss.length, vc, ia, ts.length, ic⟩ := by
    rw [hW1]
    exact (boxed w ⟨ta, va, ss.length, vc, ia, ts.length, ic⟩).below ((Below.refl _ _).alloc (Nat.le_refl _) _)
  have k2 : RowOf W1 (w.heap.size + 1) 3 := by
    rw [hW1]
    have := row_alloc (w.alloc (.cells #[.int .i64 ta, .slice va ss.length vc, .slice ia ts.length ic] 25)) #[.int .i64 0, .slice none 0 0, .slice none 0 0]
    rwa [size_alloc] at this
  have k3 : Below w.heap.size w W1 := by rw [hW1]; exact ((Below.refl _ _).alloc (Nat.le_refl _) _).alloc (by rw [size_alloc]; omega) _
  have k4 : W1.heap.size = w.heap.size + 2 := by rw [hW1, size_alloc, size_alloc]
  clear hW1
  rw [← hN] at k1 k2 k3 k4 ⊢
  have HNw : Hid (w.heap.size = N) := hN.symm
  have K1 : Hid (At W1 N 0 ⟨ta, va, ss.length, vc, ia, ts.length, ic⟩ ∧ RowOf W1 (N + 1) 3 ∧ Below N w W1 ∧ W1.heap.size = N + 2) := ⟨k1, k2, k3, k4⟩
  clear hN k1 k2 k3 k4
  have hmk := make_qs ts.length hl2
  have SX : Hid (∀ w', Below W1.heap.size W1 w' → (w'.cell? ⟨N, 0, none⟩ = some (.int .i64 ta) ∧ w'.cell? ⟨N, 1, none⟩ = some (.slice va ss.length vc) ∧ w'.cell? ⟨N, 2, none⟩ = some (.slice ia ts.length ic)) ∧ Below W1.heap.size W1 w') := fun w' h => by
    have := K1.out.1.below h
    exact ⟨⟨this.1, this.2.1, this.2.2⟩, h⟩
  have HB0 : Hid (∀ w', Below W1.heap.size W1 w' → Below N w w' ∧ At w' N 0 ⟨ta, va, ss.length, vc, ia, ts.length, ic⟩ ∧ RowOf w' (N + 1) 3) := fun w' h => by
    obtain ⟨k1, k2, k3, k4⟩ := K1.out
    exact ⟨k3.trans (h.mono (by omega)), k1.below h, k2.of_block (h.block _ (by omega))⟩
  have HST : Hid (∀ w', Below W1.heap.size W1 w' → ∀ i (h : i < ss.length), ∃ b o, va = some ⟨b, o, none⟩ ∧ w'.cell? ⟨b, o + i, none⟩ = some (.string ss[i])) := fun w' hB i h => by
    obtain ⟨b, o, e, _, _, hc⟩ := HA4.out i h
    exact ⟨b, o, e, ((HB0.out w' hB).1.cell (by rw [← HNw.out]; exact World.block_lt_of_cell? w _ hc)).trans hc⟩
  go_cut [3] (fun s3 wc => ∃ bc bv vcc bi, s3 = .pointer (some ⟨bc, 0, none⟩) ∧ Rl N w wc ⟨ta, va, ss.length, vc, ia, ts.length, ic⟩ ss ts.length bc bv vcc bi)
  case first =>
    go_region_held3 (fun w' => (w'.cell? ⟨N, 0, none⟩ = some (.int .i64 ta) ∧ w'.cell? ⟨N, 1, none⟩ = some (.slice va ss.length vc) ∧ w'.cell? ⟨N, 2, none⟩ = some (.slice ia ts.length ic)) ∧ Below W1.heap.size W1 w')
      (first | exact SX.out _ (Below.refl _ _).drew | (have hh := (by assumption : (_ ∧ _ ∧ _) ∧ Below W1.heap.size W1 _).2; exact SX.out _ (hh.alloc hh.size _)) | exact SX.out _ hB1.out
             | exact SX.out _ (hB1.out.alloc hB1.out.size _) | exact SX.out _ ((hB1.out.alloc hB1.out.size _).alloc (hB1.out.alloc hB1.out.size _).size _)
             | exact SX.out _ (((hB1.out.setCell (by simp; try omega) _).setCell (by simp; try omega) _).setCell (by simp; try omega) _)
             | exact SX.out _ ((((hB1.out.setCell (by simp; try omega) _).setCell (by simp; try omega) _).setCell (by simp; try omega) _).alloc (((hB1.out.setCell (by simp; try omega) _).setCell (by simp; try omega) _).setCell (by simp; try omega) _).size _))
      (first | (have hh := (by assumption : (_ ∧ _ ∧ _) ∧ Below W1.heap.size W1 _).2; refine step_clone rfl _ _ rfl _ va vc ss rfl rfl (by simp; try omega) hl1 (HST.out _ hh) ?_; intro bv vcc w1 hAp hbv hbl hSt
                have hB1 : Hid (Below W1.heap.size W1 w1) := hh.trans (hAp.mono hh.size)
                have hcl : ∀ p : Addr, p.block < _ → w1.cell? p = _ := fun p h => hAp.cell h
                have hfz : ∀ p : Addr, p.block < _ → w1.frozen? p = _ := fun p h => hAp.frozen h
                have hlt : ∀ k : Nat, k < _ → k < w1.heap.size := fun k h => Nat.lt_of_lt_of_le h hAp.size
                have hne : ∀ k : Nat, k < _ → (w1.heap.size = k) = False := fun k h => eq_false (by have := hlt k h; omega)
                have hs0 : W1.heap.size < w1.heap.size := hlt _ (by simp; try omega)
                have HH : Hid ((∀ b m, RowOf _ b m → RowOf w1 b m) ∧ StrRow w1 bv ss ∧ (bv = _ ∨ _ ≤ bv) ∧ bv < w1.heap.size ∧ _ ≤ w1.heap.size) := ⟨fun b m h => h.of_block (hAp.block b h.lt), hSt, hbv, hbl, hAp.size⟩
                clear hAp hbv hbl hSt hh))
    all_goals
      have hx := HB0.out _ (by assumption : (_ ∧ _ ∧ _) ∧ Below W1.heap.size W1 _).2
      have HX : Hid (_ ∧ _) := hx
      clear hcl hfz hlt hne hs0 hx
      go_wp2
      go_meet
      have hx := HX.out
      obtain ⟨q1, q2, q3, q4, q5⟩ := HH.out
      have q6 := K1.out.2.2.2
      simp at q3 q5
    · exact ⟨w1.heap.size + 1, bv, vcc, w1.heap.size, rfl, rl_a q2 q4 (by omega) (by omega) hx⟩
    · exact ⟨w1.heap.size, bv, vcc, w1.heap.size + 1, rfl, rl_b q2 q4 (by omega) (by omega) hx⟩
    · have hr := (q1 _ _ (RowOf.drew (RowOf.new _ _ _ _ (by simp) (size_madeCells _ _))) : RowOf w1 (W1.heap.size + 1) (ts.length * 3))
      exact ⟨w1.heap.size, bv, vcc, W1.heap.size + 1, rfl, rl_c hr q2 q4 (by omega) (by omega) (by omega) (by omega) hx⟩
    · have hc := (q1 _ _ (RowOf.drew (RowOf.new _ _ _ _ (by simp) (size3 _ _ _))) : RowOf w1 (W1.heap.size + 1 + 1) (3))
      have hr := (q1 _ _ (RowOf.drew ((RowOf.new _ _ _ _ (by simp) (size_madeCells _ _)).alloc _)) : RowOf w1 (W1.heap.size + 1) (ts.length * 3))
      exact ⟨W1.heap.size + 1 + 1, bv, vcc, W1.heap.size + 1, rfl, rl_d hc hr q2 (by omega) (by omega) (by omega) (by omega) (by omega) (by omega) hx⟩
    · have hc := (q1 _ _ (RowOf.drew (RowOf.new _ _ _ _ (by simp) (size3 _ _ _))) : RowOf w1 (W1.heap.size + 1) (3))
      exact ⟨W1.heap.size + 1, bv, vcc, w1.heap.size, rfl, rl_e hc q2 q4 (by omega) (by omega) (by omega) (by omega) hx⟩
    · have hc := (q1 _ _ (RowOf.drew ((RowOf.new _ _ _ _ (by simp) (size3 _ _ _)).alloc _)) : RowOf w1 (W1.heap.size + 1) (3))
      have hr := (q1 _ _ (RowOf.drew (RowOf.new _ _ _ _ (by simp) (size_madeCells _ _))) : RowOf w1 (W1.heap.size + 1 + 1) (ts.length * 3))
      exact ⟨W1.heap.size + 1, bv, vcc, W1.heap.size + 1 + 1, rfl, rl_d hc hr q2 (by omega) (by omega) (by omega) (by omega) (by omega) (by omega) hx⟩
    · have hr := (q1 _ _ (RowOf.drew ((RowOf.new _ _ _ _ (by simp) (size_madeCells _ _)).alloc _)) : RowOf w1 (W1.heap.size) (ts.length * 3))
      exact ⟨w1.heap.size, bv, vcc, W1.heap.size, rfl, rl_c hr q2 q4 (by omega) (by omega) (by omega) (by omega) hx⟩
    · have hc := (q1 _ _ (RowOf.drew (RowOf.new _ _ _ _ (by simp) (size3 _ _ _))) : RowOf w1 (W1.heap.size + 1 + 1) (3))
      have hr := (q1 _ _ (RowOf.drew (((RowOf.new _ _ _ _ (by simp) (size_madeCells _ _)).alloc _).alloc _)) : RowOf w1 (W1.heap.size) (ts.length * 3))
      exact ⟨W1.heap.size + 1 + 1, bv, vcc, W1.heap.size, rfl, rl_d hc hr q2 (by omega) (by omega) (by omega) (by omega) (by omega) (by omega) hx⟩
    · have hc := (q1 _ _ (RowOf.drew ((RowOf.new _ _ _ _ (by simp) (size3 _ _ _)).alloc _)) : RowOf w1 (W1.heap.size + 1) (3))
      have hr := (q1 _ _ (RowOf.drew (((RowOf.new _ _ _ _ (by simp) (size_madeCells _ _)).alloc _).alloc _)) : RowOf w1 (W1.heap.size) (ts.length * 3))
      exact ⟨W1.heap.size + 1, bv, vcc, W1.heap.size, rfl, rl_d hc hr q2 (by omega) (by omega) (by omega) (by omega) (by omega) (by omega) hx⟩
    · have hc := (q1 _ _ (RowOf.drew ((RowOf.new _ _ _ _ (by simp) (size3 _ _ _)).alloc _)) : RowOf w1 (W1.heap.size) (3))
      exact ⟨W1.heap.size, bv, vcc, w1.heap.size, rfl, rl_e hc q2 q4 (by omega) (by omega) (by omega) (by omega) hx⟩
    · have hc := (q1 _ _ (RowOf.drew (((RowOf.new _ _ _ _ (by simp) (size3 _ _ _)).alloc _).alloc _)) : RowOf w1 (W1.heap.size) (3))
      have hr := (q1 _ _ (RowOf.drew (RowOf.new _ _ _ _ (by simp) (size_madeCells _ _))) : RowOf w1 (W1.heap.size + 1 + 1) (ts.length * 3))
      exact ⟨W1.heap.size, bv, vcc, W1.heap.size + 1 + 1, rfl, rl_d hc hr q2 (by omega) (by omega) (by omega) (by omega) (by omega) (by omega) hx⟩
    · have hc := (q1 _ _ (RowOf.drew (((RowOf.new _ _ _ _ (by simp) (size3 _ _ _)).alloc _).alloc _)) : RowOf w1 (W1.heap.size) (3))
      have hr := (q1 _ _ (RowOf.drew ((RowOf.new _ _ _ _ (by simp) (size_madeCells _ _)).alloc _)) : RowOf w1 (W1.heap.size + 1) (ts.length * 3))
      exact ⟨W1.heap.size, bv, vcc, W1.heap.size + 1, rfl, rl_d hc hr q2 (by omega) (by omega) (by omega) (by omega) (by omega) (by omega) hx⟩
  case rest =>
    obtain ⟨bc, bv, vcc, bi, rfl, HRl⟩ := hcut
    have HRL : Hid (Rl N w wc ⟨ta, va, ss.length, vc, ia, ts.length, ic⟩ ss ts.length bc bv vcc bi) := HRl
    clear HRl hmk SX HB0 HST K1 HA4
    obtain ⟨us, hus⟩ : ∃ us, us = ts.map (norm n) := ⟨_, rfl⟩
    have HU : Hid (us = ts.map (norm n)) := hus
    have hul : us.length = ts.length := by rw [hus, List.length_map]
    have HUG : Hid (∀ i (h : i < ts.length) (h' : i < us.length), us[i] = norm n ts[i]) := fun i h h' => by
      subst hus
      rw [List.getElem_map]
    clear hus
    have HUL : Hid (us.length = ts.length) := hul
    clear hul
    have x1 := HRL.out.1.2.1.2.2
    simp only at x1
    have HF0 : Hid (Filled n bi us 0 wc wc) := ⟨Only.refl _ _, by rw [HUL.out]; exact HRL.out.2.2.1, fun j _ hj => by omega⟩
    have hbcN : bc ≠ bi := HRL.out.2.2.2.2.2.2.2.1
    go_wp2
    clear x1
    go_loopw [20] (fun s wr => ∃ i : Nat, i ≤ ts.length ∧ s = .int .i64 i ∧ Hid (Filled n bi us i wc wr)) (fun s _ => ts.length - (intOf s).toNat)
    case atStart => exact ⟨0, Nat.zero_le _, rfl, HF0⟩
    case round =>
      obtain ⟨i, hi, rfl, HR⟩ := hrel
      by_cases hlt : i < ts.length
      · obtain ⟨b1, o1, c0, e, _, _, y, i0⟩ := HA.out i hlt
        subst e
        have B3 : Below w.heap.size w wr := by
          rw [HNw.out]
          exact Below.only HRL.out.1.1 HNw.out HR.out.1 (by have := HRL.out.2.2.2.2.2.1; omega)
        obtain ⟨y0, y1, y2⟩ := y.below B3
        obtain ⟨V, hV⟩ : ∃ V, V = wr.alloc (.cells #[.int .i64 c0.t, .slice c0.va c0.vl c0.vc, .slice c0.ia c0.il c0.ic] 25) := ⟨_, rfl⟩
        have bV : At V wr.heap.size 0 c0 := by rw [hV]; exact boxed wr c0
        have BV : Below wr.heap.size wr V := by rw [hV]; exact (Below.refl _ _).alloc (Nat.le_refl _) _
        have FV : Filled n bi us i wc V := by rw [hV]; exact HR.out.alloc _
        have hvb : wr.heap.size ≠ bi := by have := HR.out.2.1.lt; omega
        have HVD : Hid (V = wr.alloc (.cells #[.int .i64 c0.t, .slice c0.va c0.vl c0.vc, .slice c0.ia c0.il c0.ic] 25)) := hV
        clear hV
        have HK1 : Hid (Held5 V.drew bc bc wr.heap.size 0 (.slice (some ⟨bi, 0, none⟩) ts.length ts.length) (.slice (some ⟨bi, 0, none⟩) ts.length ts.length) c0) := by
          have z := ((HR.out.1.at hbcN HRL.out.2.1).below BV).2.2
          simp only at z
          exact ⟨z, z, bV.1, bV.2.1, bV.2.2⟩
        have HFV : Hid (Filled n bi us i wc V) := FV
        have HI : Hid (Calls Yba.prog 6 #[c0.val] V.drew fun e w' => ∃ c : Qs, e = .returned c.val ∧ Is n V.drew.heap.size true w' c (norm n ts[i]) ∧ Below V.drew.heap.size V.drew w') := by
          refine IH.out c0 ts[i] V.drew ?_ (i0.below (B3.trans (BV.mono B3.size)).drew)
          have := count_get ts i hlt
          have := HS.out
          omega
        clear y i0 B3 bV BV FV
        go_wp2
        rw [← HVD.out]
        clear y0 y1 y2 HVD
        go_region_held3 (fun w' => w'.cell? ⟨bc, 2, none⟩ = some (.slice (some ⟨bi, 0, none⟩) ts.length ts.length) ∧ w'.cell? ⟨bc, 2, none⟩ = some (.slice (some ⟨bi, 0, none⟩) ts.length ts.length) ∧
          w'.cell? ⟨wr.heap.size, 0, none⟩ = some (.int .i64 c0.t) ∧ w'.cell? ⟨wr.heap.size, 1, none⟩ = some (.slice c0.va c0.vl c0.vc) ∧ w'.cell? ⟨wr.heap.size, 2, none⟩ = some (.slice c0.ia c0.il c0.ic))
          (first | exact HK1.out | exact HK2.out | exact HK3.out)
          (first | (go_at_call 6; refine HI.out.mono ?_; rintro e w2 ⟨⟨ct, cva, cvl, cvc, cia, cil, cic⟩, rfl, hI2, hb⟩
                    have HK2 : Hid (Held5 w2 bc bc wr.heap.size 0 (.slice (some ⟨bi, 0, none⟩) ts.length ts.length) (.slice (some ⟨bi, 0, none⟩) ts.length ts.length) c0) := HK1.out.below hb
                    have HX : Hid (Filled n bi us (i + 1) wc (put3 w2 bi (i * 3) ⟨ct, cva, cvl, cvc, cia, cil, cic⟩)) := HFV.out.drew.next (by rw [HUL.out]; exact hlt) hb (by rw [HUG.out i hlt]; exact hI2)
                    have HK3 : Hid (Held5 (put3 w2 bi (i * 3) ⟨ct, cva, cvl, cvc, cia, cil, cic⟩) bc bc wr.heap.size 0 (.slice (some ⟨bi, 0, none⟩) ts.length ts.length) (.slice (some ⟨bi, 0, none⟩) ts.length ts.length) c0) := HK2.out.puts _ _ _ hbcN hbcN hvb
                    have hrow : RowOf w2 bi (us.length * 3) := HFV.out.drew.2.1.of_block (hb.block bi HFV.out.drew.2.1.lt)
                    rw [HUL.out] at hrow
                    obtain ⟨v0, g0⟩ := hrow.cell (i * 3) (by omega)
                    obtain ⟨v1, g1⟩ := hrow.cell (i * 3 + 1) (by omega)
                    obtain ⟨v2, g2⟩ := hrow.cell (i * 3 + 2) (by omega)
                    have f0 := hrow.frozen (i * 3)
                    have f1 := hrow.frozen (i * 3 + 1)
                    have f2 := hrow.frozen (i * 3 + 2)
                    clear hrow hb hI2
                    simp only [Qs.val]))
        clear g0 g1 g2 f0 f1 f2 HK1 HK2 HK3
        go_wp2
        go_roundw
        case rel => exact ⟨i + 1, by omega, by go_num, HX⟩
        case measure => simp [intOf]; omega
      · obtain rfl : i = ts.length := by omega
        obtain ⟨⟨z1, z2, z3⟩, z4, z5, z6, z7, z8, z9, z10, z11⟩ := HRL.out
        obtain ⟨r1, r2, r3⟩ := HR.out
        have hA := r1.at z10 z4
        have hR := z3.of_block (r1.2.2.2.2 (N + 1) z3.lt (by omega))
        have hBl : Below N w wr := Below.only z1 HNw.out r1 (by omega)
        have hbvl : 0 < ss.length → bv < wc.heap.size := fun h => World.block_lt_of_cell? wc _ (z6 0 h).2
        have hSt : StrRow wr bv ss := fun j hj => (z6.of_block (r1.2.2.2.2 bv (hbvl (by omega)) z11)) j hj
        have HY : Hid (Is (n + 1) N true (put3 wr (N + 1) 0 ⟨ta, some ⟨bv, 0, none⟩, ss.length, vcc, some ⟨bi, 0, none⟩, ts.length, ts.length⟩) ⟨ta, some ⟨bv, 0, none⟩, ss.length, vcc, some ⟨bi, 0, none⟩, ts.length, ts.length⟩ (norm (n + 1) (mk ta nv ss ni ts)) ∧ Below N w (put3 wr (N + 1) 0 ⟨ta, some ⟨bv, 0, none⟩, ss.length, vcc, some ⟨bi, 0, none⟩, ts.length, ts.length⟩)) := by
          refine ⟨?_, Below.puts hBl _ _ _ (by omega)⟩
          rw [norm_mk, ← HU.out]
          refine ⟨rfl, rfl, rfl, fun j hj => ?_, rfl, HUL.out.symm, fun j hj => ?_⟩
          · have := put3_strs hSt (B := N + 1) (by omega) 0 ⟨ta, some ⟨bv, 0, none⟩, ss.length, vcc, some ⟨bi, 0, none⟩, ts.length, ts.length⟩ j hj
            exact ⟨bv, 0, rfl, by omega, fun _ => by rw [Nat.zero_add]; exact this.1, by rw [Nat.zero_add]; exact this.2⟩
          · obtain ⟨c, h1, h2⟩ := r3 j hj (by rw [← HUL.out]; exact hj)
            have hr := put3_far r2 (B := N + 1) (by omega) 0 ⟨ta, some ⟨bv, 0, none⟩, ss.length, vcc, some ⟨bi, 0, none⟩, ts.length, ts.length⟩
            refine ⟨bi, 0, c, rfl, by omega, fun _ => ⟨hr.frozen _, hr.frozen _, hr.frozen _⟩, ?_, ?_⟩
            · rw [Nat.zero_add]
              exact h1.of_block (put3_block _ _ _ _ _ (by omega))
            · exact (h2.keep fun k hk _ => put3_block _ _ _ _ _ (by omega)).weaken (by omega) fun z => z
        have HZ : Hid (At (put3 wr (N + 1) 0 ⟨ta, some ⟨bv, 0, none⟩, ss.length, vcc, some ⟨bi, 0, none⟩, ts.length, ts.length⟩) (N + 1) 0 ⟨ta, some ⟨bv, 0, none⟩, ss.length, vcc, some ⟨bi, 0, none⟩, ts.length, ts.length⟩) := put3_same hR 0 (by omega) _
        obtain ⟨v0, g0⟩ := hR.cell 0 (by omega)
        obtain ⟨v1, g1⟩ := hR.cell 1 (by omega)
        obtain ⟨v2, g2⟩ := hR.cell 2 (by omega)
        have f0 := hR.frozen 0
        have f1 := hR.frozen 1
        have f2 := hR.frozen 2
        obtain ⟨k0, k1, k2⟩ := hA
        simp only at k0 k1 k2
        have hcN : ¬ bc = N + 1 := by omega
        clear z1 z2 z3 z4 z5 z6 z7 z8 z9 z10 z11 r1 r2 r3 hR hBl hSt hbvl
        go_wp2
        refine ret_cell Yba.results6 rfl HZ.out ⟨_, rfl, ?_⟩
        rw [HNw.out]
        exact HY.out

theorem clone_all : ∀ n, CloneAt n
  | 0 => fun _ _ _ _ h => h.elim
  | n + 1 => clone_step n (clone_all n)
end Go.Proofs.Ybulkdvsy
