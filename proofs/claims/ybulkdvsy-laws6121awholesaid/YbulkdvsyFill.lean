/-
  A ROW OF SETS THAT IS FILLED, set by set, each with what a call has made; and the law of make for sets.
-/
import Derived.Test.YbulkdvsyFits
namespace Go.Proofs.Ybulkdvsy
open Go.RowKit

theorem make_qs (n : Nat) (h : n ≤ 65536) (w : World) : (Instr.makeSlice 23 (.int .i64 (n : Int)) (.int .i64 (n : Int))).run Yba.prog w =
    .ok (.slice (some ⟨w.heap.size, 0, none⟩) n n) (w.alloc (.cells (madeCells #[.int .i64 0, .slice none 0 0, .slice none 0 0] (n * 3)) 25)) := by
  obtain ⟨i, hi, hzz⟩ := Option.map_eq_some_iff.1 Yba.info25
  simp only [Prod.mk.injEq] at hzz
  obtain ⟨hz, hs, hb⟩ := hzz
  have := run_make (P := Yba.prog) w 23 25 i _ Yba.underlying23 hi hz .i64 .i64 (n : Int) (n : Int) (by omega) (Int.le_refl _) (by rw [hb]; omega) (by omega)
  rw [hs] at this
  simp only [Int.toNat_natCast] at this
  exact this

/-- The strings ss behind a slice's address, at block L and above, free to be written. -/
def Strs (L : Nat) (w : World) (va : Option Addr) (ss : List ByteArray) : Prop :=
  ∀ i (h : i < ss.length), ∃ b o, va = some ⟨b, o, none⟩ ∧ L ≤ b ∧ w.frozen? ⟨b, o + i, none⟩ = false ∧ w.cell? ⟨b, o + i, none⟩ = some (.string ss[i])

theorem Strs.keep {L : Nat} {w w' : World} {va : Option Addr} {ss : List ByteArray} (h : Strs L w va ss) (hk : ∀ k, L ≤ k → k < w.heap.size → w'.heap[k]? = w.heap[k]?) : Strs L w' va ss := fun i hi => by
  obtain ⟨b, o, e, hb, hf, hc⟩ := h i hi
  have e1 := hk b hb (World.block_lt_of_cell? w _ hc)
  exact ⟨b, o, e, hb, (World.frozen?_of_block (w := w) e1).trans hf, (World.cell?_of_block (w := w) e1).trans hc⟩

/-- Block B is a row of m cells that may be written. -/
def RowOf (w : World) (B m : Nat) : Prop := ∃ C, w.heap[B]? = some (.cells C 25 (0, 0)) ∧ C.size = m

theorem RowOf.set {w : World} {B m : Nat} (h : RowOf w B m) (o : Nat) (v : Value) : RowOf (w.setCell ⟨B, o, none⟩ v) B m := by
  obtain ⟨C, h1, h2⟩ := h
  refine ⟨C.setIfInBounds o v, ?_, by simpa using h2⟩
  simp [World.setCell, Array.getElem?_modify, h1]
theorem RowOf.of_block {w w' : World} {B m : Nat} (h : RowOf w B m) (e : w'.heap[B]? = w.heap[B]?) : RowOf w' B m := by
  obtain ⟨C, h1, h2⟩ := h
  exact ⟨C, e.trans h1, h2⟩
theorem RowOf.cell {w : World} {B m : Nat} (h : RowOf w B m) (o : Nat) (ho : o < m) : ∃ v, w.cell? ⟨B, o, none⟩ = some v := by
  obtain ⟨C, h1, h2⟩ := h
  exact ⟨C[o]'(by omega), by rw [cell_of_row w B o C 25 _ h1]; exact Array.getElem?_eq_getElem (by omega)⟩
theorem RowOf.frozen {w : World} {B m : Nat} (h : RowOf w B m) (o : Nat) : w.frozen? ⟨B, o, none⟩ = false := by
  obtain ⟨C, h1, _⟩ := h
  simp [World.frozen?, h1]
theorem RowOf.lt {w : World} {B m : Nat} (h : RowOf w B m) : B < w.heap.size := by
  obtain ⟨C, h1, _⟩ := h
  exact (Array.getElem?_eq_some_iff.1 h1).1

/-- The world with a set stored. -/
def put3 (w : World) (B o : Nat) (c : Qs) : World := ((w.setCell ⟨B, o, none⟩ (.int .i64 c.t)).setCell ⟨B, o + 1, none⟩ (.slice c.va c.vl c.vc)).setCell ⟨B, o + 2, none⟩ (.slice c.ia c.il c.ic)

theorem put3_block (w : World) (B o : Nat) (c : Qs) (k : Nat) (hk : k ≠ B) : (put3 w B o c).heap[k]? = w.heap[k]? := by
  unfold put3
  rw [Below.heap_setCell _ _ _ _ hk, Below.heap_setCell _ _ _ _ hk, Below.heap_setCell _ _ _ _ hk]
theorem put3_size (w : World) (B o : Nat) (c : Qs) : (put3 w B o c).heap.size = w.heap.size := by simp [put3, World.setCell]
theorem put3_row {w : World} {B m : Nat} (h : RowOf w B m) (o : Nat) (c : Qs) : RowOf (put3 w B o c) B m := ((h.set _ _).set _ _).set _ _
theorem put3_same {w : World} {B m : Nat} (h : RowOf w B m) (o : Nat) (ho : o + 3 ≤ m) (c : Qs) : At (put3 w B o c) B o c := by
  obtain ⟨v0, c0⟩ := h.cell o (by omega)
  obtain ⟨v1, c1⟩ := (h.set o (.int .i64 c.t)).cell (o + 1) (by omega)
  obtain ⟨v2, c2⟩ := ((h.set o (.int .i64 c.t)).set (o + 1) (.slice c.va c.vl c.vc)).cell (o + 2) (by omega)
  unfold put3
  refine ⟨?_, ?_, World.cell?_setCell_same _ _ _ c2⟩
  · rw [World.cell?_setCell_other _ _ _ _ (by simp), World.cell?_setCell_other _ _ _ _ (by simp)]
    exact World.cell?_setCell_same _ _ _ c0
  · rw [World.cell?_setCell_other _ _ _ _ (by simp)]
    exact World.cell?_setCell_same _ _ _ c1
theorem put3_other {w : World} {B o o' : Nat} {c d : Qs} (h : At w B o' d) (ho : o' + 3 ≤ o ∨ o + 3 ≤ o') : At (put3 w B o c) B o' d := by
  unfold put3
  refine ⟨?_, ?_, ?_⟩
  · rw [World.cell?_setCell_other _ _ _ _ (by intro e; simp only [Addr.mk.injEq] at e; omega), World.cell?_setCell_other _ _ _ _ (by intro e; simp only [Addr.mk.injEq] at e; omega), World.cell?_setCell_other _ _ _ _ (by intro e; simp only [Addr.mk.injEq] at e; omega)]; exact h.1
  · rw [World.cell?_setCell_other _ _ _ _ (by intro e; simp only [Addr.mk.injEq] at e; omega), World.cell?_setCell_other _ _ _ _ (by intro e; simp only [Addr.mk.injEq] at e; omega), World.cell?_setCell_other _ _ _ _ (by intro e; simp only [Addr.mk.injEq] at e; omega)]; exact h.2.1
  · rw [World.cell?_setCell_other _ _ _ _ (by intro e; simp only [Addr.mk.injEq] at e; omega), World.cell?_setCell_other _ _ _ _ (by intro e; simp only [Addr.mk.injEq] at e; omega), World.cell?_setCell_other _ _ _ _ (by intro e; simp only [Addr.mk.injEq] at e; omega)]; exact h.2.2

theorem Only.below {bb : Nat} {a w w' : World} (h : Only bb a w) (hB : Below w.heap.size w w') : Only bb a w' :=
  h.trans ⟨hB.os, hB.tape, hB.output, hB.size, fun k hk _ => hB.block k hk⟩
theorem Only.puts {bb : Nat} {a w : World} (h : Only bb a w) (o : Nat) (c : Qs) : Only bb a (put3 w bb o c) := ((h.setCell _ _).setCell _ _).setCell _ _

/-- Since wm the row in block B alone has turned: its first i sets hold ts. -/
def Filled (n B : Nat) (ts : List (Tree n)) (i : Nat) (wm wr : World) : Prop :=
  Only B wm wr ∧ RowOf wr B (ts.length * 3) ∧ ∀ j (h : j < ts.length), j < i → ∃ c, At wr B (j * 3) c ∧ Is n (B + 1) true wr c ts[j]

theorem Filled.drew {n B : Nat} {ts : List (Tree n)} {i : Nat} {wm wr : World} (h : Filled n B ts i wm wr) : Filled n B ts i wm wr.drew :=
  ⟨h.1, h.2.1, fun j hj hi => by
    obtain ⟨c, h1, h2⟩ := h.2.2 j hj hi
    exact ⟨c, h1, h2.keep fun _ _ _ => rfl⟩⟩

theorem Filled.next {n B : Nat} {ts : List (Tree n)} {i : Nat} {wm wr w2 : World} {c : Qs} (h : Filled n B ts i wm wr) (hi : i < ts.length) (hb : Below wr.heap.size wr w2) (hc : Is n wr.heap.size true w2 c ts[i]) : Filled n B ts (i + 1) wm (put3 w2 B (i * 3) c) := by
  obtain ⟨h1, h2, h3⟩ := h
  have hlt := h2.lt
  have h2' : RowOf w2 B (ts.length * 3) := h2.of_block (hb.block B hlt)
  refine ⟨(h1.below hb).puts _ _, put3_row h2' _ _, fun j hj hji => ?_⟩
  by_cases e : j = i
  · subst e
    exact ⟨c, put3_same h2' _ (by omega) c, (hc.weaken (by omega) (fun z => z)).keep fun k hk _ => put3_block _ _ _ _ _ (by omega)⟩
  · obtain ⟨d, hd, hI⟩ := h3 j hj (by omega)
    exact ⟨d, put3_other (hd.of_block (hb.block B hlt)) (by omega), hI.keep fun k hk hk2 => (put3_block _ _ _ _ _ (by omega)).trans (hb.block k hk2)⟩

/-- The cells that a round of the filling reads. -/
def Held5 (w : World) (N M b1 o1 : Nat) (sa sb : Value) (c : Qs) : Prop :=
  w.cell? ⟨N, 2, none⟩ = some sa ∧ w.cell? ⟨M, 2, none⟩ = some sb ∧
  w.cell? ⟨b1, o1, none⟩ = some (.int .i64 c.t) ∧ w.cell? ⟨b1, o1 + 1, none⟩ = some (.slice c.va c.vl c.vc) ∧ w.cell? ⟨b1, o1 + 2, none⟩ = some (.slice c.ia c.il c.ic)
theorem Held5.below {w w' : World} {N M b1 o1 : Nat} {sa sb : Value} {c : Qs} (h : Held5 w N M b1 o1 sa sb c) (hB : Below w.heap.size w w') : Held5 w' N M b1 o1 sa sb c := by
  have go : ∀ {p : Addr} {v : Value}, w.cell? p = some v → w'.cell? p = some v := fun {p v} e => (hB.cell (World.block_lt_of_cell? w p e)).trans e
  exact ⟨go h.1, go h.2.1, go h.2.2.1, go h.2.2.2.1, go h.2.2.2.2⟩
theorem Held5.puts {w : World} {N M b1 o1 : Nat} {sa sb : Value} {c : Qs} (h : Held5 w N M b1 o1 sa sb c) (B o : Nat) (d : Qs) (hN : N ≠ B) (hM : M ≠ B) (h1 : b1 ≠ B) : Held5 (put3 w B o d) N M b1 o1 sa sb c := by
  have go : ∀ {p : Addr} {v : Value}, p.block ≠ B → w.cell? p = some v → (put3 w B o d).cell? p = some v := fun {p v} hp e => (World.cell?_of_block (w := w) (put3_block w B o d p.block hp)).trans e
  exact ⟨go hN h.1, go hM h.2.1, go h1 h.2.2.1, go h1 h.2.2.2.1, go h1 h.2.2.2.2⟩

/-- Since wm the row of strings in block B alone has turned: its first i strings are those of ss. -/
def SFilled (B : Nat) (ss : List ByteArray) (i : Nat) (wm wr : World) : Prop :=
  Only B wm wr ∧ ∃ C, wr.heap[B]? = some (.cells C 9 (0, 0)) ∧ C.size = ss.length ∧ ∀ j (h : j < ss.length), j < i → C[j]? = some (.string ss[j])

theorem SFilled.drew {B : Nat} {ss : List ByteArray} {i : Nat} {wm wr : World} (h : SFilled B ss i wm wr) : SFilled B ss i wm wr.drew := h
theorem SFilled.next {B : Nat} {ss : List ByteArray} {i : Nat} {wm wr : World} (h : SFilled B ss i wm wr) (hi : i < ss.length) : SFilled B ss (i + 1) wm (wr.setCell ⟨B, i, none⟩ (.string ss[i])) := by
  obtain ⟨h1, C, h2, h3, h4⟩ := h
  refine ⟨h1.setCell _ _, C.setIfInBounds i (.string ss[i]), by simp [World.setCell, Array.getElem?_modify, h2], by simpa using h3, fun j hj hji => ?_⟩
  rw [Array.getElem?_setIfInBounds]
  by_cases e : i = j
  · subst e
    rw [if_pos rfl, if_pos (by omega)]
  · rw [if_neg e]
    exact h4 j hj (by omega)
theorem SFilled.cell {B : Nat} {ss : List ByteArray} {i : Nat} {wm wr : World} (h : SFilled B ss i wm wr) (hi : i < ss.length) : (∃ v, wr.cell? ⟨B, i, none⟩ = some v) ∧ wr.frozen? ⟨B, i, none⟩ = false := by
  obtain ⟨h1, C, h2, h3, h4⟩ := h
  refine ⟨⟨C[i]'(by omega), ?_⟩, by simp [World.frozen?, h2]⟩
  rw [cell_of_row wr B i C 9 _ h2]
  exact Array.getElem?_eq_getElem (by omega)
theorem SFilled.strs {B : Nat} {ss : List ByteArray} {wm wr : World} (h : SFilled B ss ss.length wm wr) {L : Nat} (hL : L ≤ B) : Strs L wr (some ⟨B, 0, none⟩) ss := fun i hi => by
  obtain ⟨h1, C, h2, h3, h4⟩ := h
  refine ⟨B, 0, rfl, hL, by simp [World.frozen?, h2], ?_⟩
  rw [cell_of_row wr B _ C 9 _ h2, Nat.zero_add]
  exact h4 i hi hi

theorem At.set1 {w : World} {b o : Nat} {q : Qs} (h : At w b o q) (a : Option Addr) (l c : Nat) : At (w.setCell ⟨b, o + 1, none⟩ (.slice a l c)) b o ⟨q.t, a, l, c, q.ia, q.il, q.ic⟩ :=
  ⟨(World.cell?_setCell_other _ _ _ _ (by intro e; simp only [Addr.mk.injEq] at e; omega)).trans h.1, World.cell?_setCell_same _ _ _ h.2.1, (World.cell?_setCell_other _ _ _ _ (by intro e; simp only [Addr.mk.injEq] at e; omega)).trans h.2.2⟩
theorem At.set2 {w : World} {b o : Nat} {q : Qs} (h : At w b o q) (a : Option Addr) (l c : Nat) : At (w.setCell ⟨b, o + 2, none⟩ (.slice a l c)) b o ⟨q.t, q.va, q.vl, q.vc, a, l, c⟩ :=
  ⟨(World.cell?_setCell_other _ _ _ _ (by intro e; simp only [Addr.mk.injEq] at e; omega)).trans h.1, (World.cell?_setCell_other _ _ _ _ (by intro e; simp only [Addr.mk.injEq] at e; omega)).trans h.2.1, World.cell?_setCell_same _ _ _ h.2.2⟩

/-- The frame of a call that copies: the argument's box at N, the result's cell behind it, the new set c behind that. -/
def Fr (N : Nat) (w wc : World) (q c : Qs) : Prop := Below N w wc ∧ At wc N 0 q ∧ RowOf wc (N + 1) 3 ∧ At wc (N + 1 + 1) 0 c ∧ RowOf wc (N + 1 + 1) 3

theorem Fr.only {N B : Nat} {w wc wr : World} {q c : Qs} (h : Fr N w wc q c) (ho : Only B wc wr) (hN : w.heap.size = N) (hB : N + 1 + 1 < B) : Fr N w wr q c := by
  obtain ⟨h1, h2, h3, h4, h5⟩ := h
  exact ⟨Below.only h1 hN ho (by omega), ho.at (by omega) h2, h3.of_block (ho.2.2.2.2 _ h3.lt (by omega)), ho.at (by omega) h4, h5.of_block (ho.2.2.2.2 _ h5.lt (by omega))⟩
theorem Fr.alloc {N : Nat} {w wc : World} {q c : Qs} (h : Fr N w wc q c) (o : Obj) : Fr N w (wc.alloc o) q c := by
  obtain ⟨h1, h2, h3, h4, h5⟩ := h
  have e : ∀ k, k < wc.heap.size → (wc.alloc o).heap[k]? = wc.heap[k]? := fun k hk => Below.heap_alloc _ _ _ hk
  exact ⟨h1.alloc (by have := h2.lt; omega) _, h2.of_block (e _ h2.lt), h3.of_block (e _ h3.lt), h4.of_block (e _ h4.lt), h5.of_block (e _ h5.lt)⟩
theorem Fr.set1 {N : Nat} {w wc : World} {q c : Qs} (h : Fr N w wc q c) (a : Option Addr) (l k : Nat) : Fr N w (wc.setCell ⟨N + 1 + 1, 1, none⟩ (.slice a l k)) q ⟨c.t, a, l, k, c.ia, c.il, c.ic⟩ := by
  obtain ⟨h1, h2, h3, h4, h5⟩ := h
  exact ⟨h1.setCell (by show N ≤ N + 1 + 1; omega) _, h2.of_block (Below.heap_setCell _ _ _ _ (by show N ≠ N + 1 + 1; omega)), h3.of_block (Below.heap_setCell _ _ _ _ (by show N + 1 ≠ N + 1 + 1; omega)), h4.set1 a l k, h5.set _ _⟩
theorem Fr.set2 {N : Nat} {w wc : World} {q c : Qs} (h : Fr N w wc q c) (a : Option Addr) (l k : Nat) : Fr N w (wc.setCell ⟨N + 1 + 1, 2, none⟩ (.slice a l k)) q ⟨c.t, c.va, c.vl, c.vc, a, l, k⟩ := by
  obtain ⟨h1, h2, h3, h4, h5⟩ := h
  exact ⟨h1.setCell (by show N ≤ N + 1 + 1; omega) _, h2.of_block (Below.heap_setCell _ _ _ _ (by show N ≠ N + 1 + 1; omega)), h3.of_block (Below.heap_setCell _ _ _ _ (by show N + 1 ≠ N + 1 + 1; omega)), h4.set2 a l k, h5.set _ _⟩
theorem Fr.drew {N : Nat} {w wc : World} {q c : Qs} (h : Fr N w wc q c) : Fr N w wc.drew q c := ⟨h.1.drew, h.2.1, h.2.2.1, h.2.2.2.1, h.2.2.2.2⟩
theorem Fr.size {N : Nat} {w wc : World} {q c : Qs} (h : Fr N w wc q c) : N + 3 ≤ wc.heap.size := by have := h.2.2.2.2.lt; omega
theorem row_alloc (w : World) (C : Array Value) : RowOf (w.alloc (.cells C 25)) w.heap.size C.size := ⟨C, Go.Deep.blk_alloc_new _ _, rfl⟩
theorem Fr.start (w : World) (q c : Qs) (z : Array Value) (hz : z.size = 3) : Fr w.heap.size w (((w.alloc (.cells #[.int .i64 q.t, .slice q.va q.vl q.vc, .slice q.ia q.il q.ic] 25)).alloc (.cells z 25)).alloc (.cells #[.int .i64 c.t, .slice c.va c.vl c.vc, .slice c.ia c.il c.ic] 25)) q c := by
  have h1 := boxed w q
  obtain ⟨V1, hV1⟩ : ∃ V1, V1 = w.alloc (.cells #[.int .i64 q.t, .slice q.va q.vl q.vc, .slice q.ia q.il q.ic] 25) := ⟨_, rfl⟩
  have e1 : V1.heap.size = w.heap.size + 1 := by rw [hV1, size_alloc]
  have b1 : Below w.heap.size w V1 := by rw [hV1]; exact (Below.refl _ _).alloc (Nat.le_refl _) _
  rw [← hV1] at h1 ⊢
  have h2 := row_alloc V1 z
  obtain ⟨V2, hV2⟩ : ∃ V2, V2 = V1.alloc (.cells z 25) := ⟨_, rfl⟩
  have e2 : V2.heap.size = w.heap.size + 1 + 1 := by rw [hV2, size_alloc, e1]
  have b2 : Below V1.heap.size V1 V2 := by rw [hV2]; exact (Below.refl _ _).alloc (Nat.le_refl _) _
  rw [← hV2] at h2 ⊢
  rw [e1, hz] at h2
  have h3 := boxed V2 c
  have h4 := row_alloc V2 #[.int .i64 c.t, .slice c.va c.vl c.vc, .slice c.ia c.il c.ic]
  have b3 : Below V2.heap.size V2 (V2.alloc (.cells #[.int .i64 c.t, .slice c.va c.vl c.vc, .slice c.ia c.il c.ic] 25)) := (Below.refl _ _).alloc (Nat.le_refl _) _
  rw [e2] at h3 h4
  exact ⟨(b1.trans (b2.mono (by omega))).trans (b3.mono (by omega)), (h1.below b2).below b3, h2.of_block (b3.block _ (by omega)), h3, h4⟩

theorem ret_cell {fn : Func} (h : fn.results = #[.cell 2 25]) {Q : Ending → World → Prop} {tmps : Array Value} {W : World} {r : Nat} {c : Qs} (hp : tmps.getD 2 undef = .pointer (some ⟨r, 0, none⟩)) (hA : At W r 0 c) (hQ : Q (.returned c.val) W) :
    bodyPost Yba.prog fn Q .ret { tmps := tmps, defers := [] } W := by
  refine bodyPost_ret (v := c.val) ?_ rfl hQ
  have hr : W.rangeAt r 0 [.int .i64 c.t, .slice c.va c.vl c.vc, .slice c.ia c.il c.ic] := fun j v hv => by
    match j, hv with
    | 0, hv => cases hv; exact hA.1
    | 1, hv => cases hv; exact hA.2.1
    | 2, hv => cases hv; exact hA.2.2
  have hv := run_loadVar_mid (P := Yba.prog) W r 0 25 _ _ hr Yba.underlying25 rfl Yba.size25
  have hp' : tmps[2]?.getD undef = .pointer (some ⟨r, 0, none⟩) := by simpa using hp
  simp [results, h, hp', asAddr, hv, Qs.val]

theorem Below.puts {B : Nat} {a w : World} (h : Below B a w) (b o : Nat) (c : Qs) (hb : B ≤ b) : Below B a (put3 w b o c) := ((h.setCell hb _).setCell hb _).setCell hb _
end Go.Proofs.Ybulkdvsy
