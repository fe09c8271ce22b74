/-
  'append' OF ONE ELEMENT, WITH WHAT IS WANTED OF THE SLICE FROM WHICH ONE BEGAN: there was room, and the value stays in its row with its capacity; or a new row was made and no old block has turned.
-/
import Derived.Test.YbulkdvpsHas
namespace Go.Proofs.Ybulkdvps
open Go.RowKit

theorem owns_mono {w : World} {base base' : Nat} {e : TypeId} {size : Nat} {v : Value} {n : Nat} {xs : List Value} (h : w.ownsRow base e size v n xs) (hb : base' ≤ base) : w.ownsRow base' e size v n xs := by
  refine ⟨h.1, ?_⟩
  rcases h.2 with h2 | ⟨g, cap, cur, h3, h4, h5⟩
  · exact .inl h2
  · exact .inr ⟨g, cap, cur, h3, Nat.le_trans hb h4, h5⟩

/-- The two ways of an append. -/
def Kept (w w' : World) (v v' : Value) (n : Nat) : Prop :=
  (∃ g cap, v = .slice (some ⟨g, 0, none⟩) n cap ∧ v' = .slice (some ⟨g, 0, none⟩) (n + 1) cap ∧ w.grownBy w' (some g)) ∨ (w.grownBy w' Option.none ∧ ∀ g, v'.ownBlock = some g → w.heap.size ≤ g)

section
variable {P : Program} (w : World)

theorem run_append_kept (base : Nat) (t ty e : TypeId) (i : TypeInfo) (z : Value) (bytes : Nat) (ht : P.underlying t = some (.slice e)) (hi : P.info? e = some i) (hz : i.zero = some z)
    (hsize : i.size = 1) (hby : i.bytes = bytes) (hzs : z.cells.size = 1) (v : Value) (n : Nat) (xs : List Value) (hown : w.ownsRow base e 1 v n xs)
    (a : Addr) (c : Nat) (u : Value) (hu : w.cell? a = some u) (h1 : u.oneCell' = true) (h63 : n + 1 ≤ maxLen) (hbytes : (n + 1) * bytes ≤ 140737488355328) (hbase : base ≤ w.heap.size) :
    ∃ v' w', (Builtin.append_ #[t, t] ty #[v, .slice (some a) 1 c]).run P w = .ok v' w' ∧ w'.ownsRow base e 1 v' (n + 1) (xs ++ [u]) ∧ v' ≠ .slice Option.none 0 0 ∧ Kept w w' v v' n := by
  have hl : [u].length = 1 * 1 := rfl
  have hnews : ∀ j x, [u][j]? = some x → w.cell? (a.add j) = some x := by
    intro j x hj
    match j, hj with
    | 0, hj => simp at hj; subst hj; simpa [Addr.add] using hu
  have h1' : ∀ x ∈ [u], x.oneCell' = true := by intro x hx; simp at hx; rw [hx]; exact h1
  have hsmall : n + 1 ≤ 9223372036854775807 := by simp only [maxLen] at h63; omega
  rcases hown.2 with ⟨rfl, rfl⟩ | ⟨g, cap, cur, rfl, hbg, hg, hnc, hcm, hcs, htake⟩
  · have hx : xs = [] := List.eq_nil_of_length_eq_zero (by simpa using hown.1)
    subst hx
    obtain ⟨v', w', hr, h2, h3, h4⟩ := run_append_own (P := P) w w.heap.size t ty e i z 1 bytes ht hi hz hsize hby hzs (by decide) _ 0 [] (World.ownsRow_nil w _ e 1) a 1 c [u] hl hnews h1' h63 hbytes (Nat.le_refl _)
    exact ⟨v', w', hr, owns_mono h2 hbase, fun e => by simp [e] at h4, .inr ⟨h3, fun g hg => (h2.lt g hg).1⟩⟩
  · obtain ⟨v', w', hr, h2, h3, h4⟩ := run_append_own (P := P) w base t ty e i z 1 bytes ht hi hz hsize hby hzs (by decide) _ n xs hown a 1 c [u] hl hnews h1' h63 hbytes hbase
    refine ⟨v', w', hr, h2, fun e => by simp [e] at h4, ?_⟩
    by_cases hroom : n + 1 ≤ cap
    · have hr2 := run_append_room (P := P) w t ty e i ht hi g n cap cur hg a 1 c [u] (by rw [hsize]; rfl) hnews h1' hroom (by rw [hsize]; simp; omega)
      rw [hr] at hr2
      injection hr2 with e1 e2
      exact .inl ⟨g, cap, rfl, e1, h3⟩
    · have holds : ∀ j x, xs[j]? = some x → w.cell? ((⟨g, 0, none⟩ : Addr).add j) = some x := hown.cells (g := g) rfl
      have hr2 := run_append_grow (P := P) w t ty e i z ht hi hz ⟨g, 0, none⟩ n cap xs (by rw [hsize]; exact hown.1) holds a 1 c [u] (by rw [hsize]; rfl) hnews (by omega) (by omega) (by rw [hby]; exact growslice_fits (by omega) hbytes)
      rw [hr] at hr2
      injection hr2 with e1 e2
      refine .inr ⟨by rw [e2]; exact ⟨rfl, rfl, rfl, by simp, fun k hk _ => Below.heap_alloc w.drew _ k hk⟩, fun g' hg' => ?_⟩
      rw [e1] at hg'
      simp [Value.ownBlock] at hg'
      omega

theorem wpList_append_kept {ops : Array Oper} {rest : List Oper} {o : Oper} {a : Act} {Q : Exit → Act → World → Prop} (hgd : o.guard = Option.none) (s x : Operand) (t : TypeId)
    (ho : o.op = .call { callee := .builtin .append, args := #[s, x], argTypes := #[t, t] })
    (base : Nat) (e : TypeId) (i : TypeInfo) (z : Value) (bytes : Nat) (ht : P.underlying t = some (.slice e)) (hi : P.info? e = some i) (hz : i.zero = some z)
    (hsize : i.size = 1) (hby : i.bytes = bytes) (hzs : z.cells.size = 1) (v : Value) (n : Nat) (xs : List Value) (hs : a.eval s = v) (hown : w.ownsRow base e 1 v n xs)
    (ad : Addr) (c : Nat) (u : Value) (hx : a.eval x = .slice (some ad) 1 c) (hu : w.cell? ad = some u) (h1 : u.oneCell' = true) (h63 : n + 1 ≤ maxLen) (hbytes : (n + 1) * bytes ≤ 140737488355328) (hbase : base ≤ w.heap.size)
    (h : ∀ v' w', w'.ownsRow base e 1 v' (n + 1) (xs ++ [u]) → v' ≠ .slice Option.none 0 0 → Kept w w' v v' n → wpList P ops Q rest (a.put o.dst v') w') : wpList P ops Q (o :: rest) a w := by
  obtain ⟨v', w', hr, h2, h3, h4⟩ := run_append_kept (P := P) w base t o.type e i z bytes ht hi hz hsize hby hzs v n xs hown ad c u hu h1 h63 hbytes hbase
  refine wpList_plain hgd fun K hK => ?_
  unfold Oper.wp execOp
  simp only [ho, resolve, invoke, builtin, Sem.run_bind, Sem.run_pure, Result.andThen_ok, List.map_toArray, List.map_cons, List.map_nil, hs, hx, hr]
  exact hK _ _ (h v' w' h2 h3 h4)
end

theorem grown_trans {w w1 w2 : World} {row row2 : Option Nat} (h : w.grownBy w1 row) (h2 : w1.grownBy w2 row2) (hr : ∀ g, row2 = some g → row = some g ∨ w.heap.size ≤ g) : w.grownBy w2 row :=
  ⟨h2.os.trans h.os, h2.tape.trans h.tape, h2.output.trans h.output, Nat.le_trans h.size h2.size, fun k hk hne => (h2.block k (Nat.lt_of_lt_of_le hk h.size) (fun e => by
    rcases hr k e.symm with h | h
    · exact hne h.symm
    · omega)).trans (h.block k hk hne)⟩

/-- WHAT THE LOOP CARRIES: 'd' is what one began with (it holds ds), 'out' is what it has become (it holds ds ++ ks): every old block but d's own is as it was. -/
structure Onto1 (w : World) (base : Nat) (d : Value) (nd : Nat) (ds : List Int) (wr : World) (out : Value) (ks : List Int) : Prop where
  own : wr.ownsRow base 3 1 out (nd + ks.length) ((ds ++ ks).map (Value.int .i64))
  old : wr.ownsRow base 3 1 d nd (ds.map (Value.int .i64))
  nil : out = .slice Option.none 0 0 ↔ d = .slice Option.none 0 0 ∧ ks = []
  grown : w.grownBy wr d.ownBlock
  where_ : out.ownBlock = d.ownBlock ∨ ∀ g, out.ownBlock = some g → w.heap.size ≤ g

theorem Onto1.start {w : World} {base nd : Nat} {d : Value} {ds : List Int} (h : w.ownsRow base 3 1 d nd (ds.map (Value.int .i64))) : Onto1 w base d nd ds w d [] :=
  ⟨by simpa using h, h, by simp, ⟨rfl, rfl, rfl, Nat.le_refl _, fun _ _ _ => rfl⟩, .inl rfl⟩

theorem Onto1.later {w wr w1 : World} {base nd : Nat} {d out : Value} {ds ks : List Int} (h : Onto1 w base d nd ds wr out ks) (hg : wr.grownBy w1 Option.none) : Onto1 w base d nd ds w1 out ks :=
  ⟨h.own.kept hg (by cases out.ownBlock <;> simp), h.old.kept hg (by cases d.ownBlock <;> simp), h.nil, grown_trans h.grown hg (fun g e => by cases e), h.where_⟩

theorem grown_drewN (w : World) (q : Nat) : w.grownBy (w.drewN q) Option.none := ⟨rfl, rfl, rfl, Nat.le_refl _, fun _ _ _ => rfl⟩

/-- ONE ELEMENT MORE. -/
theorem Onto1.step {w wr w1 : World} {base nd : Nat} {d out v' : Value} {ds ks : List Int} {u : Int} (h : Onto1 w base d nd ds wr out ks)
    (hown : w1.ownsRow base 3 1 v' (nd + ks.length + 1) ((ds ++ ks).map (Value.int .i64) ++ [.int .i64 u])) (hnn : v' ≠ .slice Option.none 0 0) (hk : Kept wr w1 out v' (nd + ks.length)) :
    Onto1 w base d nd ds w1 v' (ks ++ [u]) := by
  have hl : (ks ++ [u]).length = ks.length + 1 := by simp
  have e : ((ds ++ (ks ++ [u])).map (Value.int .i64)) = (ds ++ ks).map (Value.int .i64) ++ [.int .i64 u] := by simp
  have hown2 : w1.ownsRow base 3 1 v' (nd + (ks ++ [u]).length) ((ds ++ (ks ++ [u])).map (Value.int .i64)) := by rw [hl, e]; exact hown
  have hdl : ds.length = nd := by simpa using h.old.1
  rcases hk with ⟨g, cap, rfl, rfl, hg⟩ | ⟨hg, hnew⟩
  · have hgr : w.grownBy w1 d.ownBlock := grown_trans h.grown hg fun g' e' => by
      rcases h.where_ with h' | h'
      · exact .inl (by rw [← h', ← e']; rfl)
      · exact .inr (h' g' (by rw [← e']; rfl))
    refine ⟨hown2, ?_, by simp, hgr, h.where_⟩
    rcases h.old.2 with ⟨rfl, rfl⟩ | ⟨g2, cap2, cur2, rfl, hb2, hh2, hn2, hm2, hc2, ht2⟩
    · have : ds = [] := List.eq_nil_of_length_eq_zero hdl
      subst this
      exact World.ownsRow_nil _ _ _ _
    · by_cases heq : g = g2
      · subst heq
        rcases hown.2 with ⟨hbad, _⟩ | ⟨g3, cap3, cur3, e3, hb3, hh3, hn3, hm3, hc3, ht3⟩
        · cases hbad
        rcases h.own.2 with ⟨hbad, _⟩ | ⟨g4, cap4, cur4, e4, hb4, hh4, hn4, hm4, hc4, ht4⟩
        · cases hbad
        cases e3; cases e4
        rw [hh2] at hh4
        cases hh4
        refine ⟨h.old.1, .inr ⟨g, cap2, cur3, rfl, hb2, hh3, hn2, hm2, by omega, ?_⟩⟩
        have e5 : cur3.toList.take (nd * 1) = (cur3.toList.take ((nd + ks.length + 1) * 1)).take (nd * 1) := by rw [List.take_take]; congr 1; omega
        rw [e5, ht3]
        simp only [List.map_append, List.append_assoc, Nat.mul_one]
        exact List.take_left' (by simpa using hdl)
      · exact h.old.kept hg (.inr (by simpa [Value.ownBlock] using fun e => heq e.symm))
  · exact ⟨hown2, h.old.kept hg (by cases d.ownBlock <;> simp), by simp [hnn], grown_trans h.grown hg (fun g e => by cases e), .inr fun g e => Nat.le_trans h.grown.size (hnew g e)⟩
end Go.Proofs.Ybulkdvps
