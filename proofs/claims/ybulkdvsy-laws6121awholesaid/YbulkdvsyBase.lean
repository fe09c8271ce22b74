/-
  QUORUM SETS IN A WORLD: a set is three cells (threshold, validators, inner sets). What it holds is told by a tree of a given depth ('Tree n': by recursion on n).
-/
import Derived.Test.YbulkdvsyRows
import Derived.WalkKit
import Derived.WalkSpells
import Derived.WalkLawsBesides
import Derived.Below
import Derived.Deep.Draws
import Derived.Deep.MidRow
import Derived.Deep.OwnRows
import Derived.ProofKit
namespace Go.Proofs.Ybulkdvsy
open Go.RowKit

theorem Yba.info9 : (Yba.prog.info? 9).map (fun i => (i.zero, i.size, i.bytes)) = some (some (.string ⟨#[]⟩), 1, 16) := by kernel_rfl
theorem Yba.info25 : (Yba.prog.info? 25).map (fun i => (i.zero, i.size, i.bytes)) = some (some (.agg #[.int .i64 0, .slice none 0 0, .slice none 0 0]), 3, 56) := by kernel_rfl
theorem Yba.size25 : (Yba.prog.info? 25).map (·.size) = some 3 := by kernel_rfl

/-- A quorum set's three cells. -/
structure Qs where
  t : Int
  va : Option Addr
  vl : Nat
  vc : Nat
  ia : Option Addr
  il : Nat
  ic : Nat

def Qs.val (q : Qs) : Value := .agg #[.int .i64 q.t, .slice q.va q.vl q.vc, .slice q.ia q.il q.ic]

/-- The set q lies in block b from offset o on. -/
def At (w : World) (b o : Nat) (q : Qs) : Prop :=
  w.cell? ⟨b, o, none⟩ = some (.int .i64 q.t) ∧ w.cell? ⟨b, o + 1, none⟩ = some (.slice q.va q.vl q.vc) ∧ w.cell? ⟨b, o + 2, none⟩ = some (.slice q.ia q.il q.ic)

/-- What a set of depth n holds: the threshold; nil?, the validators; nil?, the inner sets. -/
def Tree : Nat → Type
  | 0 => Unit
  | n + 1 => Int × (Bool × List ByteArray) × (Bool × List (Tree n))

/-- The three cells from b, o on may be written. -/
def Free3 (w : World) (b o : Nat) : Prop := w.frozen? ⟨b, o, none⟩ = false ∧ w.frozen? ⟨b, o + 1, none⟩ = false ∧ w.frozen? ⟨b, o + 2, none⟩ = false

/-- q holds T in the world w; every block that is met is L or above; fz: and its cells may be written. -/
def Is : (n : Nat) → Nat → Bool → World → Qs → Tree n → Prop
  | 0, _, _, _, _, _ => False
  | n + 1, L, fz, w, q, (t, (nv, ss), (ni, ts)) => q.t = t ∧ q.va.isNone = nv ∧ q.vl = ss.length ∧
      (∀ i (h : i < ss.length), ∃ b o, q.va = some ⟨b, o, none⟩ ∧ L ≤ b ∧ (fz = true → w.frozen? ⟨b, o + i, none⟩ = false) ∧ w.cell? ⟨b, o + i, none⟩ = some (.string ss[i])) ∧
      q.ia.isNone = ni ∧ q.il = ts.length ∧
      (∀ i (h : i < ts.length), ∃ b o c, q.ia = some ⟨b, o, none⟩ ∧ L ≤ b ∧ (fz = true → Free3 w b (o + i * 3)) ∧ At w b (o + i * 3) c ∧ Is n L fz w c ts[i])

/-- The tree of these parts. -/
def mk {n : Nat} (t : Int) (nv : Bool) (ss : List ByteArray) (ni : Bool) (ts : List (Tree n)) : Tree (n + 1) := (t, (nv, ss), (ni, ts))
theorem mk_of {n : Nat} (T : Tree (n + 1)) : ∃ t nv ss ni ts, T = mk t nv ss ni ts := by
  obtain ⟨t, ⟨nv, ss⟩, ⟨ni, ts⟩⟩ := T
  exact ⟨t, nv, ss, ni, ts, rfl⟩

/-- How many sets and validators. -/
def count : (n : Nat) → Tree n → Nat
  | 0, _ => 0
  | n + 1, (_, (_, ss), (_, ts)) => 1 + ss.length + (ts.map (count n)).sum

/-- Every slice there. -/
def norm : (n : Nat) → Tree n → Tree n
  | 0, T => T
  | n + 1, (t, (_, ss), (_, ts)) => (t, (false, ss), (false, ts.map (norm n)))

/-- Every slice's length and every string is within the reach. -/
def Ok : (n : Nat) → Tree n → Prop
  | 0, _ => True
  | n + 1, (_, (_, ss), (_, ts)) => ss.length ≤ 140737488355328 ∧ ts.length ≤ 140737488355328 ∧ (∀ i (h : i < ss.length), ss[i].size ≤ 140737488355328) ∧ ∀ i (h : i < ts.length), Ok n ts[i]

theorem At.of_block {w w' : World} {b o : Nat} {q : Qs} (h : At w b o q) (e : w'.heap[b]? = w.heap[b]?) : At w' b o q :=
  ⟨(World.cell?_of_block (w := w) e).trans h.1, (World.cell?_of_block (w := w) e).trans h.2.1, (World.cell?_of_block (w := w) e).trans h.2.2⟩
theorem At.lt {w : World} {b o : Nat} {q : Qs} (h : At w b o q) : b < w.heap.size := World.block_lt_of_cell? w _ h.1
theorem Free3.of_block {w w' : World} {b o : Nat} (h : Free3 w b o) (e : w'.heap[b]? = w.heap[b]?) : Free3 w' b o :=
  ⟨(World.frozen?_of_block (w := w) e).trans h.1, (World.frozen?_of_block (w := w) e).trans h.2.1, (World.frozen?_of_block (w := w) e).trans h.2.2⟩

/-- What lies at L and above stands where those blocks stand. -/
theorem Is.keep : ∀ {n L : Nat} {fz : Bool} {w w' : World} {q : Qs} {T : Tree n}, Is n L fz w q T → (∀ k, L ≤ k → k < w.heap.size → w'.heap[k]? = w.heap[k]?) → Is n L fz w' q T
  | 0, _, _, _, _, _, _, h, _ => h
  | n + 1, L, fz, w, w', q, (t, (nv, ss), (ni, ts)), h, hk => by
    obtain ⟨h1, h2, h3, h4, h5, h6, h7⟩ := h
    refine ⟨h1, h2, h3, fun i hi => ?_, h5, h6, fun i hi => ?_⟩
    · obtain ⟨b, o, e, hb, hf, hc⟩ := h4 i hi
      have e1 := hk b hb (World.block_lt_of_cell? w _ hc)
      exact ⟨b, o, e, hb, fun z => (World.frozen?_of_block (w := w) e1).trans (hf z), (World.cell?_of_block (w := w) e1).trans hc⟩
    · obtain ⟨b, o, c, e, hb, hf, hc, hI⟩ := h7 i hi
      have e1 := hk b hb hc.lt
      exact ⟨b, o, c, e, hb, fun z => (hf z).of_block e1, hc.of_block e1, Is.keep hI hk⟩

theorem Is.below {n L : Nat} {fz : Bool} {w w' : World} {q : Qs} {T : Tree n} (h : Is n L fz w q T) (hB : Below w.heap.size w w') : Is n L fz w' q T := h.keep fun k _ hk => hB.block k hk

theorem Is.weaken : ∀ {n L L' : Nat} {fz fz' : Bool} {w : World} {q : Qs} {T : Tree n}, Is n L fz w q T → L' ≤ L → (fz' = true → fz = true) → Is n L' fz' w q T
  | 0, _, _, _, _, _, _, _, h, _, _ => h
  | n + 1, L, L', fz, fz', w, q, (t, (nv, ss), (ni, ts)), h, hL, hz => by
    obtain ⟨h1, h2, h3, h4, h5, h6, h7⟩ := h
    refine ⟨h1, h2, h3, fun i hi => ?_, h5, h6, fun i hi => ?_⟩
    · obtain ⟨b, o, e, hb, hf, hc⟩ := h4 i hi
      exact ⟨b, o, e, Nat.le_trans hL hb, fun z => hf (hz z), hc⟩
    · obtain ⟨b, o, c, e, hb, hf, hc, hI⟩ := h7 i hi
      exact ⟨b, o, c, e, Nat.le_trans hL hb, fun z => hf (hz z), hc, Is.weaken hI hL hz⟩

theorem At.below {w w' : World} {b o : Nat} {q : Qs} (h : At w b o q) (hB : Below w.heap.size w w') : At w' b o q := h.of_block (hB.block b h.lt)

/-- A set's value boxed in a new block. -/
theorem boxed (w : World) (q : Qs) : At (w.alloc (.cells #[.int .i64 q.t, .slice q.va q.vl q.vc, .slice q.ia q.il q.ic] 25)) w.heap.size 0 q := by
  refine ⟨?_, ?_, ?_⟩ <;> rw [cell_of_row _ _ _ _ _ _ (Go.Deep.blk_alloc_new _ _)] <;> rfl
theorem size_alloc (w : World) (o : Obj) : (w.alloc o).heap.size = w.heap.size + 1 := by simp

/-- The cells of a slice of sets in two boxes and of an element of each. -/
def Held (w : World) (N M b1 o1 b2 o2 : Nat) (sa sb : Value) (c d : Qs) : Prop :=
  w.cell? ⟨N, 2, none⟩ = some sa ∧ w.cell? ⟨M, 2, none⟩ = some sb ∧
  w.cell? ⟨b1, o1, none⟩ = some (.int .i64 c.t) ∧ w.cell? ⟨b1, o1 + 1, none⟩ = some (.slice c.va c.vl c.vc) ∧ w.cell? ⟨b1, o1 + 2, none⟩ = some (.slice c.ia c.il c.ic) ∧
  w.cell? ⟨b2, o2, none⟩ = some (.int .i64 d.t) ∧ w.cell? ⟨b2, o2 + 1, none⟩ = some (.slice d.va d.vl d.vc) ∧ w.cell? ⟨b2, o2 + 2, none⟩ = some (.slice d.ia d.il d.ic)
theorem Held.below {w w' : World} {N M b1 o1 b2 o2 : Nat} {sa sb : Value} {c d : Qs} (h : Held w N M b1 o1 b2 o2 sa sb c d) (hB : Below w.heap.size w w') : Held w' N M b1 o1 b2 o2 sa sb c d := by
  have go : ∀ {p : Addr} {v : Value}, w.cell? p = some v → w'.cell? p = some v := fun {p v} e => (hB.cell (World.block_lt_of_cell? w p e)).trans e
  exact ⟨go h.1, go h.2.1, go h.2.2.1, go h.2.2.2.1, go h.2.2.2.2.1, go h.2.2.2.2.2.1, go h.2.2.2.2.2.2.1, go h.2.2.2.2.2.2.2⟩

theorem below_drewN {B : Nat} {a w : World} (h : Below B a w) (q : Nat) : Below B a (w.drewN q) := ⟨h.os, h.tape, h.output, h.size, h.block⟩

/-! ### The count -/
theorem sum_part (l : List Nat) : ∀ (i : Nat) (h : i < l.length), (l.take i).sum + l[i] ≤ l.sum := by
  induction l with
  | nil => intro i h; simp at h
  | cons x l ih =>
    intro i h
    cases i with
    | zero => simp
    | succ i => have := ih i (by simpa using h); simp; omega

theorem sum_next (l : List Nat) (i : Nat) (h : i < l.length) : (l.take (i + 1)).sum = (l.take i).sum + l[i] := by
  rw [List.take_add_one, List.sum_append, List.getElem?_eq_getElem h]
  simp

theorem count_pos {n : Nat} (T : Tree (n + 1)) : 1 ≤ count (n + 1) T := by
  obtain ⟨t, ⟨nv, ss⟩, ⟨ni, us⟩⟩ := T
  show 1 ≤ 1 + ss.length + _
  omega

theorem length_le_sum (n : Nat) (ts : List (Tree (n + 1))) : ts.length ≤ (ts.map (count (n + 1))).sum := by
  induction ts with
  | nil => simp
  | cons x l ih =>
    have := count_pos x
    simp only [List.map_cons, List.sum_cons, List.length_cons]
    omega

theorem count_mk {n : Nat} (t : Int) (nv : Bool) (ss : List ByteArray) (ni : Bool) (ts : List (Tree n)) : count (n + 1) (mk t nv ss ni ts) = 1 + ss.length + (ts.map (count n)).sum := rfl
theorem norm_mk {n : Nat} (t : Int) (nv : Bool) (ss : List ByteArray) (ni : Bool) (ts : List (Tree n)) : norm (n + 1) (mk t nv ss ni ts) = mk t false ss false (ts.map (norm n)) := rfl

theorem count_get {n : Nat} (ts : List (Tree n)) (i : Nat) (h : i < ts.length) : count n ts[i] ≤ (ts.map (count n)).sum := by
  have := sum_part (ts.map (count n)) i (by simpa using h)
  simp at this
  omega

theorem Is.parts {n L : Nat} {fz : Bool} {w : World} {q : Qs} {t : Int} {nv ni : Bool} {ss : List ByteArray} {ts : List (Tree n)} (h : Is (n + 1) L fz w q (mk t nv ss ni ts)) :
    q.t = t ∧ q.va.isNone = nv ∧ q.vl = ss.length ∧
      (∀ i (h : i < ss.length), ∃ b o, q.va = some ⟨b, o, none⟩ ∧ L ≤ b ∧ (fz = true → w.frozen? ⟨b, o + i, none⟩ = false) ∧ w.cell? ⟨b, o + i, none⟩ = some (.string ss[i])) ∧
      q.ia.isNone = ni ∧ q.il = ts.length ∧
      (∀ i (h : i < ts.length), ∃ b o c, q.ia = some ⟨b, o, none⟩ ∧ L ≤ b ∧ (fz = true → Free3 w b (o + i * 3)) ∧ At w b (o + i * 3) c ∧ Is n L fz w c ts[i]) := h

theorem Is.len_le {n L : Nat} {fz : Bool} {w : World} {q : Qs} {t : Int} {nv ni : Bool} {ss : List ByteArray} {ts : List (Tree n)} (h : Is (n + 1) L fz w q (mk t nv ss ni ts)) : ts.length ≤ (ts.map (count n)).sum := by
  cases n with
  | succ n => exact length_le_sum n ts
  | zero =>
    rcases Nat.eq_zero_or_pos ts.length with h0 | h0
    · omega
    · obtain ⟨_, _, _, _, _, _, _, h⟩ := h.parts.2.2.2.2.2.2 0 h0
      exact h.elim
end Go.Proofs.Ybulkdvsy
