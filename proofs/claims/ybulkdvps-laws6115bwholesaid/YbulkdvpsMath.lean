/-
  THE PLAIN LAW of LawS6115BWhole: no Go in sight. 'inter': the multiset intersection in a's order; on ascending lists the merge (one head at a time) and the model (one run of equal values at a time) both reckon it.
-/
import Derived.Below
namespace Go.Proofs.Ybulkdvps

/-- Each member of a, as often as b still has it. -/
def inter : List Int → List Int → List Int
  | [], _ => []
  | x :: xs, b => if x ∈ b then x :: inter xs (b.erase x) else inter xs b

/-- Ascending: each is at most all that follow. -/
def Asc : List Int → Prop
  | [] => True
  | x :: xs => (∀ y, y ∈ xs → x ≤ y) ∧ Asc xs

theorem asc_drop : ∀ (l : List Int) (i : Nat), Asc l → Asc (l.drop i)
  | [], i, _ => by simp [Asc]
  | x :: xs, 0, h => by simpa using h
  | x :: xs, i + 1, h => by simpa using asc_drop xs i h.2

theorem asc_snoc : ∀ (l : List Int) (v : Int), Asc l → (∀ y, y ∈ l → y ≤ v) → Asc (l ++ [v])
  | [], v, _, _ => by simp [Asc]
  | x :: xs, v, h, hv => by
    refine ⟨fun y hy => ?_, asc_snoc xs v h.2 fun y hy => hv y (by simp [hy])⟩
    rcases List.mem_append.1 hy with h1 | h1
    · exact h.1 y h1
    · simp at h1; rw [h1]; exact hv x (by simp)

theorem inter_nil_left (b : List Int) : inter [] b = [] := rfl
theorem inter_nil_right : ∀ a : List Int, inter a [] = []
  | [] => rfl
  | x :: xs => by simp [inter, inter_nil_right xs]

theorem inter_le : ∀ a b : List Int, (inter a b).length ≤ a.length
  | [], b => by simp [inter]
  | x :: xs, b => by
    unfold inter
    split
    · have := inter_le xs (b.erase x); simp; exact this
    · have := inter_le xs b; simp; omega

/-- What a does not hold may go from b. -/
theorem inter_erase_not : ∀ (a b : List Int) (y : Int), y ∉ a → inter a (b.erase y) = inter a b
  | [], b, y, _ => rfl
  | x :: xs, b, y, h => by
    have hx : x ≠ y := fun e => h (by simp [e])
    have hy : y ∉ xs := fun e => h (by simp [e])
    unfold inter
    rw [List.erase_comm, inter_erase_not xs _ y hy, inter_erase_not xs _ y hy]
    simp [List.mem_erase_of_ne hx]

theorem inter_cons_not (a : List Int) (y : Int) (ys : List Int) (h : y ∉ a) : inter a (y :: ys) = inter a ys := by
  have := inter_erase_not a (y :: ys) y h
  simpa using this.symm

/-! ### The merge -/
theorem inter_lt {x y : Int} {xs ys : List Int} (hb : Asc (y :: ys)) (h : x < y) : inter (x :: xs) (y :: ys) = inter xs (y :: ys) := by
  have hn : x ∉ y :: ys := by
    intro hm
    rcases List.mem_cons.1 hm with e | e
    · omega
    · have := hb.1 x e; omega
  rw [inter, if_neg hn]

theorem inter_gt {x y : Int} {xs ys : List Int} (ha : Asc (x :: xs)) (h : y < x) : inter (x :: xs) (y :: ys) = inter (x :: xs) ys := by
  refine inter_cons_not _ _ _ fun hm => ?_
  rcases List.mem_cons.1 hm with e | e
  · omega
  · have := ha.1 y e; omega

theorem inter_eq (x : Int) (xs ys : List Int) : inter (x :: xs) (x :: ys) = x :: inter xs ys := by
  rw [inter, if_pos (by simp)]; simp

theorem drop_cons (l : List Int) (i : Nat) (h : i < l.length) : l.drop i = l.getD i 0 :: l.drop (i + 1) := by
  rw [List.drop_eq_getElem_cons h]; simp [List.getElem?_eq_getElem h]

theorem step_lt {A B ks : List Int} {i j : Nat} (hb : Asc B) (hi : i < A.length) (hj : j < B.length) (h : A.getD i 0 < B.getD j 0)
    (hx : ks ++ inter (A.drop i) (B.drop j) = inter A B) : ks ++ inter (A.drop (i + 1)) (B.drop j) = inter A B := by
  rw [← hx, drop_cons A i hi, drop_cons B j hj, inter_lt (by rw [← drop_cons B j hj]; exact asc_drop B j hb) h]
theorem step_gt {A B ks : List Int} {i j : Nat} (ha : Asc A) (hi : i < A.length) (hj : j < B.length) (h : B.getD j 0 < A.getD i 0)
    (hx : ks ++ inter (A.drop i) (B.drop j) = inter A B) : ks ++ inter (A.drop i) (B.drop (j + 1)) = inter A B := by
  rw [← hx, drop_cons A i hi, drop_cons B j hj, inter_gt (by rw [← drop_cons A i hi]; exact asc_drop A i ha) h]
theorem step_eq {A B ks : List Int} {i j : Nat} (hi : i < A.length) (hj : j < B.length) (h : A.getD i 0 = B.getD j 0)
    (hx : ks ++ inter (A.drop i) (B.drop j) = inter A B) : (ks ++ [A.getD i 0]) ++ inter (A.drop (i + 1)) (B.drop (j + 1)) = inter A B := by
  rw [← hx, drop_cons A i hi, drop_cons B j hj, ← h, inter_eq]; simp
theorem step_end {A B ks : List Int} {i j : Nat} (h : ¬ (i < A.length ∧ j < B.length)) (hx : ks ++ inter (A.drop i) (B.drop j) = inter A B) : ks = inter A B := by
  by_cases hi : i < A.length
  · rw [List.drop_eq_nil_of_le (show B.length ≤ j by omega), inter_nil_right] at hx; simpa using hx
  · rw [List.drop_eq_nil_of_le (show A.length ≤ i by omega), inter_nil_left] at hx; simpa using hx

/-! ### The model: a run at a time -/
theorem inter_run (x : Int) (a : List Int) (hx : x ∉ a) : ∀ (c : Nat) (b : List Int), inter (List.replicate c x ++ a) b = List.replicate (min c (b.count x)) x ++ inter a b
  | 0, b => by simp
  | c + 1, b => by
    rw [List.replicate_succ, List.cons_append, inter]
    by_cases hm : x ∈ b
    · have hp : 0 < b.count x := List.count_pos_iff.2 hm
      rw [if_pos hm, inter_run x a hx c (b.erase x), List.count_erase_self, inter_erase_not a b x hx]
      rw [show min (c + 1) (b.count x) = min c (b.count x - 1) + 1 by omega, List.replicate_succ, List.cons_append]
    · have h0 : b.count x = 0 := List.count_eq_zero.2 hm
      rw [if_neg hm, inter_run x a hx c b, h0]; simp

theorem drop_run (A : List Int) (v : Int) (i : Nat) : ∀ c : Nat, i + c ≤ A.length → (∀ t, t < c → A.getD (i + t) 0 = v) → A.drop i = List.replicate c v ++ A.drop (i + c)
  | 0, _, _ => by simp
  | c + 1, h, hv => by
    rw [drop_run A v i c (by omega) fun t ht => hv t (by omega), drop_cons A (i + c) (by omega), hv c (by omega), List.replicate_succ', List.append_assoc]
    rfl

theorem asc_ge : ∀ (l : List Int) (i j : Nat), Asc l → i ≤ j → j < l.length → l.getD i 0 ≤ l.getD j 0
  | [], i, j, _, _, h => by simp at h
  | x :: xs, 0, 0, _, _, _ => by simp
  | x :: xs, 0, j + 1, h, _, hj => by
    have hj' : j < xs.length := by simpa using hj
    have := h.1 (xs[j]) (List.getElem_mem hj')
    simpa [hj'] using this
  | x :: xs, i + 1, 0, _, hij, _ => by omega
  | x :: xs, i + 1, j + 1, h, hij, hj => by
    have := asc_ge xs i j h.2 (by omega) (by simpa using hj)
    simpa using this

theorem not_mem_drop {A : List Int} {v : Int} {i c : Nat} (ha : Asc A) (hv : A.getD i 0 = v) (hn : ¬ (i + c < A.length ∧ A.getD (i + c) 0 = v)) : v ∉ A.drop (i + c) := by
  intro hm
  obtain ⟨t, ht, e⟩ := List.getElem_of_mem hm
  simp at ht e
  have hlt : i + c < A.length := by omega
  have h1 := asc_ge A i (i + c) ha (by omega) hlt
  have h2 := asc_ge A (i + c) (i + c + t) ha (by omega) (by omega)
  have h3 : A.getD (i + c + t) 0 = v := by simp [List.getElem?_eq_getElem (show i + c + t < A.length by omega), e]
  exact hn ⟨hlt, by omega⟩

/-- One round of the model: the run of v = A[i], c long, is used up. -/
theorem step_run {A B res : List Int} {v : Int} {i c : Nat} (ha : Asc A) (hc : i + c ≤ A.length) (hv : A.getD i 0 = v) (hall : ∀ t, t < c → A.getD (i + t) 0 = v)
    (hn : ¬ (i + c < A.length ∧ A.getD (i + c) 0 = v)) (hx : res ++ inter (A.drop i) B = inter A B) :
    (res ++ List.replicate (min c (B.count v)) v) ++ inter (A.drop (i + c)) B = inter A B := by
  rw [← hx, drop_run A v i c hc hall, inter_run v _ (not_mem_drop ha hv hn) c B, List.append_assoc]

theorem count_take (B : List Int) (v : Int) (k : Nat) (h : k < B.length) : (B.take (k + 1)).count v = (B.take k).count v + (if B.getD k 0 = v then 1 else 0) := by
  rw [List.take_succ_eq_append_getElem h, List.count_append]
  simp [List.getElem?_eq_getElem h, List.count_cons]

theorem count_take_le (B : List Int) (v : Int) (k : Nat) : (B.take k).count v ≤ k := by
  have h1 : (B.take k).count v ≤ (B.take k).length := List.count_le_length
  have h2 : (B.take k).length ≤ k := List.length_take_le _ _
  omega
end Go.Proofs.Ybulkdvps
