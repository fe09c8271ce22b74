/-
  'Wrote w w' b lo hi': w' is w but for cells of block b from lo on and below hi. And an index into an array value.
-/
import Derived.Test.YbulkdvquZero
namespace Go.Proofs.Ybulkdvqu
open Go.RowKit

structure Wrote (w w' : World) (b lo hi : Nat) : Prop where
  os : w'.os = w.os
  tape : w'.tape = w.tape
  output : w'.output = w.output
  size : w'.heap.size = w.heap.size
  block : ∀ k, k ≠ b → w'.heap[k]? = w.heap[k]?
  cell : ∀ o, (o < lo ∨ hi ≤ o) → w'.cell? ⟨b, o, none⟩ = w.cell? ⟨b, o, none⟩
  frozen : ∀ a, w'.frozen? a = w.frozen? a
  there : ∀ o, (w.cell? ⟨b, o, none⟩).isSome = true → (w'.cell? ⟨b, o, none⟩).isSome = true

section
variable {w w' w'' : World} {b lo hi : Nat}

theorem Wrote.refl (w : World) (b lo hi : Nat) : Wrote w w b lo hi := ⟨rfl, rfl, rfl, rfl, fun _ _ => rfl, fun _ _ => rfl, fun _ => rfl, fun _ h => h⟩

theorem Wrote.trans (h : Wrote w w' b lo hi) (k : Wrote w' w'' b lo hi) : Wrote w w'' b lo hi :=
  ⟨k.os.trans h.os, k.tape.trans h.tape, k.output.trans h.output, k.size.trans h.size, fun i hi => (k.block i hi).trans (h.block i hi), fun o ho => (k.cell o ho).trans (h.cell o ho), fun a => (k.frozen a).trans (h.frozen a), fun o ho => k.there o (h.there o ho)⟩

theorem Wrote.mono (h : Wrote w w' b lo hi) {lo' hi' : Nat} (h1 : lo' ≤ lo) (h2 : hi ≤ hi') : Wrote w w' b lo' hi' :=
  ⟨h.os, h.tape, h.output, h.size, h.block, fun o ho => h.cell o (by omega), h.frozen, h.there⟩

theorem Wrote.drewN (h : Wrote w w' b lo hi) (q : Nat) : Wrote w (w'.drewN q) b lo hi := ⟨h.os, h.tape, h.output, h.size, h.block, h.cell, h.frozen, h.there⟩
theorem Wrote.drew (h : Wrote w w' b lo hi) : Wrote w w'.drew b lo hi := ⟨h.os, h.tape, h.output, h.size, h.block, h.cell, h.frozen, h.there⟩

theorem Wrote.set (w : World) (b lo hi o : Nat) (v : Value) (h1 : lo ≤ o) (h2 : o < hi) : Wrote w (w.setCell ⟨b, o, none⟩ v) b lo hi :=
  ⟨rfl, rfl, rfl, by simp [World.setCell], fun k hk => Below.heap_setCell w ⟨b, o, none⟩ v k hk,
   fun o' ho => World.cell?_setCell_other w _ _ _ (fun e => by cases e; omega), fun a => by simp, fun o' ho => by
    obtain ⟨u, hu⟩ := Option.isSome_iff_exists.1 ho
    by_cases e : (⟨b, o, none⟩ : Addr) = ⟨b, o', none⟩
    · rw [← e] at hu ⊢
      rw [World.cell?_setCell_same _ _ _ hu]; rfl
    · rw [World.cell?_setCell_other _ _ _ _ e, hu]; rfl⟩

theorem Wrote.sets : ∀ (vs : List Value) (w : World) (b lo hi o : Nat), lo ≤ o → o + vs.length ≤ hi → Wrote w (w.setCells b o vs) b lo hi
  | [], w, b, lo, hi, o, _, _ => Wrote.refl _ _ _ _
  | v :: r, w, b, lo, hi, o, h1, h2 => by
    simp at h2
    rw [World.setCells]
    exact (Wrote.set w b lo hi o v h1 (by omega)).trans (Wrote.sets r _ b lo hi (o + 1) (by omega) (by omega))

theorem Wrote.range (h : Wrote w w' b lo hi) {o : Nat} {cs : List Value} (hr : w.rangeAt b o cs) (ho : o + cs.length ≤ lo ∨ hi ≤ o) : w'.rangeAt b o cs := fun j v hv => by
  have hj : j < cs.length := (List.getElem?_eq_some_iff.1 hv).1
  rw [h.cell (o + j) (by omega)]
  exact hr j v hv

theorem Wrote.rangeFar (h : Wrote w w' b lo hi) {b' o : Nat} {cs : List Value} (hr : w.rangeAt b' o cs) (hb : b' ≠ b) : w'.rangeAt b' o cs := fun j v hv => by
  rw [World.cell?_of_block (w := w) (a := ⟨b', o + j, none⟩) (h.block b' hb)]
  exact hr j v hv

theorem Wrote.far (h : Wrote w w' b lo hi) {b' o : Nat} (hb : b' ≠ b) : w'.cell? ⟨b', o, none⟩ = w.cell? ⟨b', o, none⟩ := World.cell?_of_block (w := w) (h.block b' hb)

theorem Wrote.still (h : Wrote w w' b lo hi) {o n : Nat} (ht : w.there b o n) : w'.there b o n := fun j hj => ⟨h.there (o + j) (ht j hj).1, (h.frozen _).trans (ht j hj).2⟩

theorem Wrote.below (h : Wrote w w' b lo hi) {B : Nat} (hB : B ≤ b) : Below B w w' := ⟨h.os, h.tape, h.output, Nat.le_of_eq h.size.symm, fun k hk => h.block k (by omega)⟩
end

theorem there_sub {w : World} {b o n o' n' : Nat} (h : w.there b o n) (h1 : o ≤ o') (h2 : o' + n' ≤ o + n) : w.there b o' n' := fun j hj => by
  have := h (o' - o + j) (by omega)
  rwa [show o + (o' - o + j) = o' + j by omega] at this

theorem range_sub {w : World} {b o : Nat} {cs : List Value} (h : w.rangeAt b o cs) (k n : Nat) : w.rangeAt b (o + k) ((cs.drop k).take n) := fun j v hv => by
  have : cs[k + j]? = some v := by
    rw [List.getElem?_take] at hv
    split at hv
    · rwa [List.getElem?_drop] at hv
    · cases hv
  have := h (k + j) v this
  rwa [show o + (k + j) = o + k + j by omega] at this

theorem run_index_agg {P : Program} (w : World) (t e n : Nat) (i0 : TypeInfo) (cs : Array Value) (j : Nat) (v : Value) (ht : P.underlying t = some (.array n e)) (hi : P.info? e = some i0) (hs : i0.size = 1)
    (hagg : (isAgg e).run P w = .ok false w) (hj : j < n) (hv : cs[j]? = some v) : (Instr.index t (.agg cs) (.int .i64 j)).run P w = .ok v w := by
  have h1 : (0 : Int) ≤ (j : Int) ∧ (j : Int) < (n : Int) := by omega
  simp [Instr.index, asIntOf, run_underlying ht, sizeOf, typeInfo, hi, hs, part, hagg, h1, hv]
  omega
end Go.Proofs.Ybulkdvqu
