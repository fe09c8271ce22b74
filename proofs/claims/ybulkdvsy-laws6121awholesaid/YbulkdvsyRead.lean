/-
  THE READING: an argument that reads as a finite datum holds a tree; within the reach its slices and strings are short.
-/
import Derived.Test.YbulkdvsyBase
import Derived.ChangeArms
import Derived.ChangeSlices
import GoSem.ClaimJoined
namespace Go.Proofs.Ybulkdvsy
open Go.RowKit

theorem Yba.bytes9 : Yba.prog.bytesOf 9 = 16 := by kernel_rfl
theorem Yba.bytes25 : Yba.prog.bytesOf 25 = 56 := by kernel_rfl
theorem Yba.cells9 : Yba.prog.cellsOf 9 = 1 := by kernel_rfl
theorem Yba.cells25 : Yba.prog.cellsOf 25 = 3 := by kernel_rfl
theorem Yba.cells3 : Yba.prog.cellsOf 3 = 1 := by kernel_rfl
theorem Yba.cells22 : Yba.prog.cellsOf 22 = 1 := by kernel_rfl
theorem Yba.cells23 : Yba.prog.cellsOf 23 = 1 := by kernel_rfl

theorem list_of {α : Type} : ∀ (n : Nat) (P : Nat → α → Prop), (∀ i, i < n → ∃ x, P i x) → ∃ l : List α, l.length = n ∧ ∀ i (h : i < l.length), P i l[i]
  | 0, _, _ => ⟨[], rfl, fun i h => by simp at h⟩
  | n + 1, P, h => by
    obtain ⟨l, hl, hp⟩ := list_of n P fun i hi => h i (by omega)
    obtain ⟨x, hx⟩ := h n (by omega)
    refine ⟨l ++ [x], by simp [hl], fun i hi => ?_⟩
    by_cases e : i < l.length
    · rw [List.getElem_append_left e]
      exact hp i e
    · have : i = n := by simp at hi; omega
      subst this
      rw [List.getElem_append_right (by omega)]
      simpa using hx

section
variable {H : Type} {enc : TypeId × Value → H} {W : World} {spare : Nat → Bool} {held : Bool}

theorem mem_weightsAll {P : Program} {e : TypeId} {l : List (DataW H)} {d : DataW H} {x : Nat} (hd : d ∈ l) (hx : x ∈ d.weights P e) : x ∈ DataW.weightsAll P e l := by
  induction l with
  | nil => cases hd
  | cons y l ih =>
    rw [DataW.weightsAll]
    rcases List.mem_cons.1 hd with rfl | h
    · exact List.mem_append_left _ hx
    · exact List.mem_append_right _ (ih h)

theorem addr_of {a : Addr} {v : Value} (h : W.cell? (a.add 0) = some v) : a = ⟨a.block, a.off, none⟩ := by
  obtain ⟨b, o, spot⟩ := a
  have hs : spot = none := by simpa [Addr.add] using World.cell?_spot h
  subst hs
  rfl

/-- A slice of strings. -/
theorem read_strs {fuel : Nat} {cs : List Value} {d : DataW H} {ps : List MemPlace} (h : DataW.trod enc Yba.prog W 0 spare held fuel 22 cs = some (d, ps)) :
    ∃ (va : Option Addr) (vc : Nat) (ss : List ByteArray), cs = [.slice va ss.length vc] ∧
      (∀ i (h : i < ss.length), ∃ b o, va = some ⟨b, o, none⟩ ∧ W.cell? ⟨b, o + i, none⟩ = some (.string ss[i])) ∧
      ((∀ x ∈ d.weights Yba.prog 22, x ≤ reachBytes) → ss.length ≤ 140737488355328 ∧ ∀ i (h : i < ss.length), ss[i].size ≤ 140737488355328) := by
  rcases DataW.trod_slice Yba.underlying22 h with ⟨rfl, _⟩ | ⟨a, len, cap, elems, rest, m, _, rfl, hx, _, _, _, hel, he, _, _⟩
  · exact ⟨none, 0, [], rfl, fun i h => by simp at h, fun _ => ⟨by simp, fun i h => by simp at h⟩⟩
  · have key : ∀ i, i < len → ∃ s : ByteArray, W.cell? (a.add i) = some (.string s) ∧ (elems.map (·.1))[i]? = some (.lit (.string s.data.toList)) := fun i hi => by
      have h1 := he i hi
      rw [Yba.cells9, Nat.mul_one, List.getElem?_eq_getElem (by omega)] at h1
      obtain ⟨cs', hc, ht⟩ := Option.bind_eq_some_iff.1 h1
      obtain ⟨s, rfl, hs, _⟩ := DataW.trod_string Yba.underlying9 ht
      exact ⟨s, Go.ChangeShapes.cell_of_cells?_one hc, by rw [List.getElem?_map, List.getElem?_eq_getElem (by omega), hs]; rfl⟩
    obtain ⟨ss, hl, hss⟩ := list_of len _ key
    subst hl
    refine ⟨some a, cap, ss, rfl, fun i hi => ?_, fun hw => ?_⟩
    · have e1 := addr_of (hss 0 (by omega)).1
      have e2 := (hss i hi).1
      rw [e1, Go.WideShapes.add_plain] at e2
      exact ⟨a.block, a.off, by rw [← e1], e2⟩
    · have hd : d = .slice (elems.map (·.1)) (rest.map (·.1)) := congrArg Prod.fst hx
      subst hd
      have hq : DataW.weights Yba.prog 22 (.slice (elems.map (·.1)) (rest.map (·.1)) : DataW H) = ((elems.map (·.1)).length + (rest.map (·.1)).length) * Yba.prog.bytesOf 9 :: (DataW.weightsAll Yba.prog 9 (elems.map (·.1)) ++ DataW.weightsAll Yba.prog 9 (rest.map (·.1))) := by
        rw [DataW.weights, Yba.underlying22]
      rw [hq] at hw
      refine ⟨?_, fun i hi => ?_⟩
      · have := hw _ (List.mem_cons_self ..)
        rw [Yba.bytes9, List.length_map, List.length_map] at this
        unfold reachBytes at this
        omega
      · have := hw ss[i].data.toList.length (List.mem_cons_of_mem _ (List.mem_append_left _ (mem_weightsAll (List.mem_of_getElem? (hss i hi).2) (by rw [DataW.weights]; exact List.mem_singleton_self _))))
        unfold reachBytes at this
        have e : ss[i].size = ss[i].data.toList.length := rfl
        omega

/-- A set. -/
theorem read : ∀ (n fuel : Nat) (cs : List Value) (d : DataW H) (ps : List MemPlace), fuel ≤ n → DataW.trod enc Yba.prog W 0 spare held fuel 25 cs = some (d, ps) →
    ∃ (q : Qs) (T : Tree n), cs = [.int .i64 q.t, .slice q.va q.vl q.vc, .slice q.ia q.il q.ic] ∧ Is n 0 false W q T ∧ ((∀ x ∈ d.weights Yba.prog 25, x ≤ reachBytes) → Ok n T)
  | 0, fuel, cs, d, ps, hf, h => by
    obtain ⟨_, k, rfl, _⟩ := DataW.trod_struct Yba.underlying25 h
    omega
  | n + 1, fuel, cs, d, ps, hf, h => by
    obtain ⟨xs, k, rfl, hx, hcl, hxl, hfs⟩ := DataW.trod_struct Yba.underlying25 h
    have h0 := hfs 0 _ rfl
    have h1 := hfs 1 _ rfl
    have h2 := hfs 2 _ rfl
    rw [Yba.cells25] at hcl
    obtain ⟨c0, c1, c2, rfl⟩ : ∃ c0 c1 c2, cs = [c0, c1, c2] := by
      match cs, hcl with
      | [a, b, c], _ => exact ⟨a, b, c, rfl⟩
    obtain ⟨x0, x1, x2, rfl⟩ : ∃ x0 x1 x2, xs = [x0, x1, x2] := by
      match xs, hxl with
      | [a, b, c], _ => exact ⟨a, b, c, rfl⟩
    replace h0 : DataW.trod enc Yba.prog W 0 spare held k 3 [c0] = some x0 := h0
    replace h1 : DataW.trod enc Yba.prog W 0 spare held k 22 [c1] = some (x1.1, x1.2) := h1
    replace h2 : DataW.trod enc Yba.prog W 0 spare held k 23 [c2] = some (x2.1, x2.2) := h2
    obtain ⟨t, e0, _, _⟩ := DataW.trod_int Yba.underlying3 h0
    obtain ⟨va, vc, ss, e1, hss, hsw⟩ := read_strs h1
    cases e0
    cases e1
    have hd : d = .agg [x0.1, x1.1, x2.1] := congrArg Prod.fst hx
    subst hd
    have hwt : ∀ x, x ∈ x1.1.weights Yba.prog 22 ∨ x ∈ x2.1.weights Yba.prog 23 → x ∈ DataW.weights Yba.prog 25 (.agg [x0.1, x1.1, x2.1] : DataW H) := fun x hx => by
      rw [DataW.weights, Yba.underlying25]
      show x ∈ DataW.weightsEach Yba.prog [3, 22, 23] [x0.1, x1.1, x2.1]
      rw [DataW.weightsEach, DataW.weightsEach, DataW.weightsEach]
      rcases hx with hx | hx
      · exact List.mem_append_right _ (List.mem_append_left _ hx)
      · exact List.mem_append_right _ (List.mem_append_right _ (List.mem_append_left _ hx))
    rcases DataW.trod_slice Yba.underlying23 h2 with ⟨e2, _⟩ | ⟨a, len, cap, elems, rest, m, rfl, e2, hx2, _, _, _, hel, he, _, _⟩
    · cases e2
      refine ⟨⟨t, va, ss.length, vc, none, 0, 0⟩, mk t va.isNone ss true [], rfl, ⟨rfl, rfl, rfl, fun i hi => ?_, rfl, rfl, fun i hi => by simp at hi⟩, fun hw => ?_⟩
      · obtain ⟨b, o, e, hc⟩ := hss i hi
        exact ⟨b, o, e, Nat.zero_le _, (fun z => by cases z), hc⟩
      · obtain ⟨w1, w2⟩ := hsw fun x hx => hw x (hwt x (.inl hx))
        exact ⟨w1, by simp, w2, fun i hi => by simp at hi⟩
    · cases e2
      have key : ∀ i, i < len → ∃ T : Tree n, (∃ c : Qs, (W.cell? ((a.add (i * 3)).add 0) = some (.int .i64 c.t) ∧ W.cell? ((a.add (i * 3)).add 1) = some (.slice c.va c.vl c.vc) ∧ W.cell? ((a.add (i * 3)).add 2) = some (.slice c.ia c.il c.ic)) ∧ Is n 0 false W c T) ∧
          ∃ di, (elems.map (·.1))[i]? = some di ∧ ((∀ x ∈ di.weights Yba.prog 25, x ≤ reachBytes) → Ok n T) := fun i hi => by
        have h1 := he i hi
        rw [Yba.cells25, List.getElem?_eq_getElem (by omega)] at h1
        obtain ⟨cs', hc, ht⟩ := Option.bind_eq_some_iff.1 h1
        obtain ⟨c, T, rfl, hI, hw⟩ := read n m cs' (elems[i]'(by omega)).1 (elems[i]'(by omega)).2 (by omega) ht
        obtain ⟨_, _, hcell⟩ := World.cells?_some hc
        exact ⟨T, ⟨c, ⟨hcell 0 (by omega), hcell 1 (by omega), hcell 2 (by omega)⟩, hI⟩, _, by rw [List.getElem?_map, List.getElem?_eq_getElem (by omega)]; rfl, hw⟩
      obtain ⟨ts, hl, hts⟩ := list_of len _ key
      subst hl
      have ha : 0 < ts.length → a = ⟨a.block, a.off, none⟩ := fun h0 => by
        obtain ⟨⟨c, ⟨g, _⟩, _⟩, _⟩ := hts 0 h0
        exact addr_of (W := W) (by simpa [Addr.add] using g)
      refine ⟨⟨t, va, ss.length, vc, some a, ts.length, cap⟩, mk t va.isNone ss false ts, rfl, ⟨rfl, rfl, rfl, fun i hi => ?_, rfl, rfl, fun i hi => ?_⟩, fun hw => ?_⟩
      · obtain ⟨b, o, e, hc⟩ := hss i hi
        exact ⟨b, o, e, Nat.zero_le _, (fun z => by cases z), hc⟩
      · obtain ⟨⟨c, ⟨g0, g1, g2⟩, hI⟩, _⟩ := hts i hi
        have e := ha (by omega)
        rw [e, Go.WideShapes.add_plain, Go.WideShapes.add_plain] at g0 g1 g2
        exact ⟨a.block, a.off, c, by rw [← e], Nat.zero_le _, (fun z => by cases z), ⟨g0, g1, g2⟩, hI⟩
      · obtain ⟨w1, w2⟩ := hsw fun x hx => hw x (hwt x (.inl hx))
        have hd2 : x2.1 = .slice (elems.map (·.1)) (rest.map (·.1)) := congrArg Prod.fst hx2
        have hq : DataW.weights Yba.prog 23 (.slice (elems.map (·.1)) (rest.map (·.1)) : DataW H) = ((elems.map (·.1)).length + (rest.map (·.1)).length) * Yba.prog.bytesOf 25 :: (DataW.weightsAll Yba.prog 25 (elems.map (·.1)) ++ DataW.weightsAll Yba.prog 25 (rest.map (·.1))) := by
          rw [DataW.weights, Yba.underlying23]
        have hw2 : ∀ x, x ∈ (((elems.map (·.1)).length + (rest.map (·.1)).length) * Yba.prog.bytesOf 25 :: (DataW.weightsAll Yba.prog 25 (elems.map (·.1)) ++ DataW.weightsAll Yba.prog 25 (rest.map (·.1)))) → x ≤ reachBytes := fun x hx => hw x (hwt x (.inr (by rw [hd2, hq]; exact hx)))
        refine ⟨w1, ?_, w2, fun i hi => ?_⟩
        · have := hw2 _ (List.mem_cons_self ..)
          rw [Yba.bytes25, List.length_map, List.length_map] at this
          unfold reachBytes at this
          omega
        · obtain ⟨_, di, hdi, hok⟩ := hts i hi
          exact hok fun x hx => hw2 x (List.mem_cons_of_mem _ (List.mem_append_left _ (mem_weightsAll (List.mem_of_getElem? hdi) hx)))
end
end Go.Proofs.Ybulkdvsy
