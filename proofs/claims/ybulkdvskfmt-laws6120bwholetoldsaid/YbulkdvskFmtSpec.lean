/-
  THE PLAIN LAW of LawS6120BWhole: what one BER element at the head of a list of octets is. 'parse' with fuel; 'P' without.
-/
import Derived.Below
namespace Go.Proofs.YbulkdvskFmt

/-- An element: its kind, number, whether it is constructed; where its contents begin and end; where it ends. -/
structure Res where
  cls : Nat
  num : Nat
  cons : Bool
  cs : Nat
  ce : Nat
  en : Nat

/-- The digits of a tag number in base 128; v: what has been read. The number and how many octets it takes. -/
def tagL : List Nat → Nat → Option (Nat × Nat)
  | [], _ => none
  | o :: r, v =>
    if o < 128 then (if v * 128 + o % 128 < 4294967296 then some (v * 128 + o % 128, 1) else none)
    else (tagL r (v * 128 + o % 128)).map fun x => (x.1, x.2 + 1)

/-- Class, number, constructed, and the place of the length octet. -/
def hdr : List Nat → Option (Nat × Nat × Bool × Nat)
  | [] => none
  | id :: r =>
    if id % 32 = 31 then (tagL r 0).map fun x => (id / 64, x.1, decide (id / 32 % 2 = 1), x.2 + 1)
    else some (id / 64, id % 32, decide (id / 32 % 2 = 1), 1)

/-- Octets, the most significant first. -/
def be (l : List Nat) (v : Nat) : Nat := l.foldl (fun v o => v * 256 + o) v

/-- Behind the header: definite lengths. l: all octets; q: behind the length octet 'first'. -/
def defin (l : List Nat) (cls num : Nat) (cons : Bool) (first q : Nat) : Option Res :=
  if first < 128 then (if first ≤ l.length - q then some ⟨cls, num, cons, q, q + first, q + first⟩ else none)
  else if l.length - q < first - 128 then none
  else if be ((l.drop q).take (first - 128)) 0 ≤ l.length - (q + (first - 128)) then
    some ⟨cls, num, cons, q + (first - 128), q + (first - 128) + be ((l.drop q).take (first - 128)) 0, q + (first - 128) + be ((l.drop q).take (first - 128)) 0⟩
  else none

/-- 'false': an element; 'true': the contents up to two zero octets (its 'en': behind them). -/
def parse : Nat → Bool → List Nat → Option Res
  | 0, _, _ => none
  | f + 1, true, l =>
    if 2 ≤ l.length ∧ l.getD 0 0 = 0 ∧ l.getD 1 0 = 0 then some ⟨0, 0, false, 0, 0, 2⟩
    else if l.length = 0 then none
    else (parse f false l).bind fun r => (parse f true (l.drop r.en)).map fun s => ⟨0, 0, false, 0, 0, r.en + s.en⟩
  | f + 1, false, l =>
    (hdr l).bind fun h =>
      if l.length ≤ h.2.2.2 then none
      else if l.getD h.2.2.2 0 = 128 then
        (if h.2.2.1 then (parse f true (l.drop (h.2.2.2 + 1))).map fun s => ⟨h.1, h.2.1, h.2.2.1, h.2.2.2 + 1, h.2.2.2 + 1 + s.en - 2, h.2.2.2 + 1 + s.en⟩ else none)
      else if l.getD h.2.2.2 0 = 255 then none
      else defin l h.1 h.2.1 h.2.2.1 (l.getD h.2.2.2 0) (h.2.2.2 + 1)

theorem tagL_pos : ∀ (l : List Nat) (v : Nat) (x : Nat × Nat), tagL l v = some x → 1 ≤ x.2 ∧ x.2 ≤ l.length ∧ x.1 < 4294967296
  | [], _, _, h => by simp [tagL] at h
  | o :: r, v, x, h => by
    unfold tagL at h
    split at h
    · split at h
      · cases h; simp; assumption
      · cases h
    · cases ht : tagL r (v * 128 + o % 128) with
      | none => simp [ht] at h
      | some y =>
        have := tagL_pos r _ y ht
        simp [ht] at h
        subst h
        simp; omega

/-- A number that is too great stays so. -/
theorem tagL_great : ∀ (l : List Nat) (v : Nat), 33554432 ≤ v → tagL l v = none
  | [], _, _ => rfl
  | o :: r, v, h => by
    unfold tagL
    split
    · rw [if_neg (by omega)]
    · rw [tagL_great r _ (by omega)]; rfl

theorem hdr_pos {l : List Nat} {h : Nat × Nat × Bool × Nat} (e : hdr l = some h) : 1 ≤ h.2.2.2 ∧ h.2.2.2 ≤ l.length := by
  cases l with
  | nil => simp [hdr] at e
  | cons x r =>
    by_cases c : x % 32 = 31
    · cases ht : tagL r 0 with
      | none => simp [hdr, c, ht] at e
      | some y =>
        have := tagL_pos r _ y ht
        simp [hdr, c, ht] at e
        subst e
        simp; omega
    · simp [hdr, c] at e
      subst e
      simp

theorem defin_pos {l : List Nat} {cls num first q : Nat} {cons : Bool} {r : Res} (hq : q ≤ l.length) (h : defin l cls num cons first q = some r) : q ≤ r.cs ∧ r.cs ≤ r.ce ∧ r.ce = r.en ∧ r.en ≤ l.length := by
  unfold defin at h
  split at h
  · split at h
    · cases h; simp; omega
    · cases h
  · split at h
    · cases h
    · split at h
      · cases h; simp; omega
      · cases h

/-- What comes back: where it lies. -/
theorem parse_pos : ∀ (f : Nat) (t : Bool) (l : List Nat) (r : Res), parse f t l = some r → 2 ≤ r.en ∧ r.en ≤ l.length ∧ r.cs ≤ r.ce ∧ r.ce ≤ r.en
  | 0, _, _, _, h => by simp [parse] at h
  | f + 1, true, l, r, h => by
    unfold parse at h
    split at h
    · cases h; simp; omega
    · split at h
      · cases h
      · cases h1 : parse f false l with
        | none => simp [h1] at h
        | some r1 =>
          cases h2 : parse f true (l.drop r1.en) with
          | none => simp [h1, h2] at h
          | some r2 =>
            simp [h1, h2] at h
            have a1 := parse_pos f false l r1 h1
            have a2 := parse_pos f true _ r2 h2
            subst h
            simp at a2 ⊢; omega
  | f + 1, false, l, r, h => by
    unfold parse at h
    cases hh : hdr l with
    | none => simp [hh] at h
    | some x =>
      have hx := hdr_pos hh
      simp only [hh, Option.bind_some] at h
      split at h
      · cases h
      · split at h
        · split at h
          · cases h2 : parse f true (l.drop (x.2.2.2 + 1)) with
            | none => simp [h2] at h
            | some r2 =>
              simp [h2] at h
              have a2 := parse_pos f true _ r2 h2
              subst h
              simp at a2 ⊢; omega
          · cases h
        · split at h
          · cases h
          · have := defin_pos (by omega) h
            omega

/-- Enough fuel is enough. -/
theorem parse_fuel : ∀ (f g : Nat) (t : Bool) (l : List Nat), 2 * l.length + t.toNat < f → 2 * l.length + t.toNat < g → parse f t l = parse g t l
  | 0, _, _, _, h, _ => by omega
  | _ + 1, 0, _, _, _, h => by omega
  | f + 1, g + 1, true, l, hf, hg => by
    simp at hf hg
    unfold parse
    by_cases c1 : 2 ≤ l.length ∧ l.getD 0 0 = 0 ∧ l.getD 1 0 = 0
    · rw [if_pos c1, if_pos c1]
    · rw [if_neg c1, if_neg c1]
      by_cases c2 : l.length = 0
      · rw [if_pos c2, if_pos c2]
      · rw [if_neg c2, if_neg c2, parse_fuel f g false l (by simp; omega) (by simp; omega)]
        cases h1 : parse g false l with
        | none => rfl
        | some r =>
          have a := parse_pos g false l r h1
          simp only [Option.bind_some]
          rw [parse_fuel f g true (l.drop r.en) (by simp; omega) (by simp; omega)]
  | f + 1, g + 1, false, l, hf, hg => by
    simp at hf hg
    unfold parse
    cases hh : hdr l with
    | none => rfl
    | some x =>
      have hx := hdr_pos hh
      simp only [Option.bind_some]
      by_cases c1 : l.length ≤ x.2.2.2
      · rw [if_pos c1, if_pos c1]
      · rw [if_neg c1, if_neg c1, parse_fuel f g true (l.drop (x.2.2.2 + 1)) (by simp; omega) (by simp; omega)]

/-- The element at the head of l ('true': the contents). -/
def P (t : Bool) (l : List Nat) : Option Res := parse (2 * l.length + 2) t l

theorem P_pos {t : Bool} {l : List Nat} {r : Res} (h : P t l = some r) : 2 ≤ r.en ∧ r.en ≤ l.length ∧ r.cs ≤ r.ce ∧ r.ce ≤ r.en := parse_pos _ t l r h

theorem P_true (l : List Nat) : P true l = if 2 ≤ l.length ∧ l.getD 0 0 = 0 ∧ l.getD 1 0 = 0 then some ⟨0, 0, false, 0, 0, 2⟩ else if l.length = 0 then none
    else (P false l).bind fun r => (P true (l.drop r.en)).map fun s => ⟨0, 0, false, 0, 0, r.en + s.en⟩ := by
  show parse (2 * l.length + 1 + 1) true l = _
  unfold parse
  by_cases c1 : 2 ≤ l.length ∧ l.getD 0 0 = 0 ∧ l.getD 1 0 = 0
  · rw [if_pos c1, if_pos c1]
  · rw [if_neg c1, if_neg c1]
    by_cases c2 : l.length = 0
    · rw [if_pos c2, if_pos c2]
    · rw [if_neg c2, if_neg c2]
      have e1 : parse (2 * l.length + 1) false l = P false l := parse_fuel _ _ false l (by simp) (by simp)
      rw [e1]
      cases h1 : P false l with
      | none => rfl
      | some r =>
        have a := P_pos h1
        simp only [Option.bind_some]
        have e2 : parse (2 * l.length + 1) true (l.drop r.en) = P true (l.drop r.en) := parse_fuel _ _ true _ (by simp; omega) (by simp)
        rw [e2]

theorem P_false (l : List Nat) : P false l = (hdr l).bind fun h =>
      if l.length ≤ h.2.2.2 then none
      else if l.getD h.2.2.2 0 = 128 then
        (if h.2.2.1 then (P true (l.drop (h.2.2.2 + 1))).map fun s => ⟨h.1, h.2.1, h.2.2.1, h.2.2.2 + 1, h.2.2.2 + 1 + s.en - 2, h.2.2.2 + 1 + s.en⟩ else none)
      else if l.getD h.2.2.2 0 = 255 then none
      else defin l h.1 h.2.1 h.2.2.1 (l.getD h.2.2.2 0) (h.2.2.2 + 1) := by
  show parse (2 * l.length + 1 + 1) false l = _
  unfold parse
  cases hh : hdr l with
  | none => rfl
  | some x =>
    have hx := hdr_pos hh
    simp only [Option.bind_some]
    by_cases c1 : l.length ≤ x.2.2.2
    · rw [if_pos c1, if_pos c1]
    · have e2 : parse (2 * l.length + 1) true (l.drop (x.2.2.2 + 1)) = P true (l.drop (x.2.2.2 + 1)) := parse_fuel _ _ true _ (by simp; omega) (by simp)
      rw [if_neg c1, if_neg c1, e2]

theorem drop_get (L : List Nat) (p : Nat) (h : p < L.length) : L.drop p = L.getD p 0 :: L.drop (p + 1) := by
  rw [List.drop_eq_getElem_cons h]; simp [List.getElem?_eq_getElem h]

/-! ### The header, as the walks come to it: x the first octet -/
theorem hdr_short {L : List Nat} {x : Nat} (hL : 1 ≤ L.length) (hx : x = L.getD 0 0) (h : x % 32 ≠ 31) : hdr L = some (x / 64, x % 32, decide (x / 32 % 2 = 1), 1) := by
  have e := drop_get L 0 hL
  rw [List.drop_zero, ← hx] at e
  rw [e]; simp [hdr, h]
theorem hdr_long {L : List Nat} {x : Nat} (hL : 1 ≤ L.length) (hx : x = L.getD 0 0) (h : x % 32 = 31) : hdr L = (tagL (L.drop 1) 0).map fun y => (x / 64, y.1, decide (x / 32 % 2 = 1), y.2 + 1) := by
  have e := drop_get L 0 hL
  rw [List.drop_zero, ← hx] at e
  rw [e]; simp [hdr, h]

theorem tag_last {L : List Nat} {p v : Nat} (hp : 1 ≤ p) (hpl : p < L.length) (hd : L.getD p 0 < 128) (hv : v < 33554432) (hT : tagL (L.drop 1) 0 = (tagL (L.drop p) v).map fun y => (y.1, y.2 + (p - 1))) :
    tagL (L.drop 1) 0 = some (v * 128 + L.getD p 0 % 128, p) := by
  rw [hT, drop_get L p hpl]
  unfold tagL
  rw [if_pos hd, if_pos (by omega)]
  simp; omega
theorem tag_more {L : List Nat} {p v : Nat} (hp : 1 ≤ p) (hpl : p < L.length) (hd : ¬ L.getD p 0 < 128) (hT : tagL (L.drop 1) 0 = (tagL (L.drop p) v).map fun y => (y.1, y.2 + (p - 1))) :
    tagL (L.drop 1) 0 = (tagL (L.drop (p + 1)) (v * 128 + L.getD p 0 % 128)).map fun y => (y.1, y.2 + (p + 1 - 1)) := by
  rw [hT, drop_get L p hpl]
  rw [tagL, if_neg hd, Option.map_map]
  congr 1
  funext y
  simp; omega
theorem tag_short {L : List Nat} {p v : Nat} (hpl : L.length ≤ p) (hT : tagL (L.drop 1) 0 = (tagL (L.drop p) v).map fun y => (y.1, y.2 + (p - 1))) : tagL (L.drop 1) 0 = none := by
  rw [hT, List.drop_eq_nil_of_le hpl]; rfl
theorem tag_big {L : List Nat} {p v : Nat} (hv : 33554432 ≤ v) (hT : tagL (L.drop 1) 0 = (tagL (L.drop p) v).map fun y => (y.1, y.2 + (p - 1))) : tagL (L.drop 1) 0 = none := by
  rw [hT, tagL_great _ _ hv]; rfl

theorem be_snoc (l : List Nat) (d v : Nat) : be (l ++ [d]) v = be l v * 256 + d := by simp [be, List.foldl_append]
theorem be_ge : ∀ (l : List Nat) (v : Nat), v ≤ be l v
  | [], v => Nat.le_refl _
  | d :: l, v => Nat.le_trans (by omega : v ≤ v * 256 + d) (be_ge l (v * 256 + d))
theorem be_take (l : List Nat) (k : Nat) (h : k < l.length) : be (l.take (k + 1)) 0 = be (l.take k) 0 * 256 + l.getD k 0 := by
  rw [List.take_succ_eq_append_getElem h, be_snoc]; simp [List.getElem?_eq_getElem h]
/-- The first m octets read v, with an octet to come. -/
theorem be_more (l : List Nat) (k m : Nat) (hk : k < m) (hm : m ≤ l.length) : be (l.take k) 0 * 256 ≤ be (l.take m) 0 := by
  have e : l.take m = l.take (k + 1) ++ (l.drop (k + 1)).take (m - (k + 1)) := by
    rw [← List.take_add]; congr 1; omega
  rw [e]
  have h2 : be (l.take (k + 1) ++ (l.drop (k + 1)).take (m - (k + 1))) 0 = be ((l.drop (k + 1)).take (m - (k + 1))) (be (l.take (k + 1)) 0) := by simp [be, List.foldl_append]
  have h3 := be_ge ((l.drop (k + 1)).take (m - (k + 1))) (be (l.take (k + 1)) 0)
  have h4 := be_take l k (by omega)
  omega

/-- The model's loop over a tag number: vr is what has been read, or it is too great already. -/
def Rt (L : List Nat) (p vr : Nat) : Prop :=
  (vr < 4294967296 ∧ tagL (L.drop 1) 0 = (tagL (L.drop p) vr).map fun y => (y.1, y.2 + (p - 1))) ∨ (4294967296 ≤ vr ∧ tagL (L.drop 1) 0 = none)
theorem rt_start (L : List Nat) : Rt L 1 0 := .inl ⟨by omega, by simp⟩
theorem rt_short {L : List Nat} {p vr : Nat} (h : Rt L p vr) (hp : L.length ≤ p) : tagL (L.drop 1) 0 = none := by
  rcases h with ⟨_, h⟩ | ⟨_, h⟩
  · exact tag_short hp h
  · exact h
theorem rt_last {L : List Nat} {p vr : Nat} (h : Rt L p vr) (hp : 1 ≤ p) (hpl : p < L.length) (hd : L.getD p 0 < 128) (hv : vr < 4294967296) :
    tagL (L.drop 1) 0 = if vr * 128 + L.getD p 0 % 128 < 4294967296 then some (vr * 128 + L.getD p 0 % 128, p) else none := by
  rcases h with ⟨_, h⟩ | ⟨h2, _⟩
  · rw [h, drop_get L p hpl]
    rw [tagL, if_pos hd]
    by_cases c : vr * 128 + L.getD p 0 % 128 < 4294967296
    · rw [if_pos c, if_pos c]; simp; omega
    · rw [if_neg c, if_neg c]; rfl
  · omega
theorem rt_more {L : List Nat} {p vr : Nat} (h : Rt L p vr) (hp : 1 ≤ p) (hpl : p < L.length) (hd : ¬ L.getD p 0 < 128) (hv : vr < 4294967296) : Rt L (p + 1) (vr * 128 + L.getD p 0 % 128) := by
  rcases h with ⟨_, h⟩ | ⟨h2, _⟩
  · have h' := tag_more hp hpl hd h
    by_cases c : vr * 128 + L.getD p 0 % 128 < 4294967296
    · exact .inl ⟨c, h'⟩
    · refine .inr ⟨by omega, ?_⟩
      rw [h', tagL_great _ _ (by omega)]; rfl
  · omega
theorem rt_great {L : List Nat} {p vr : Nat} (h : Rt L p vr) (hv : 4294967296 ≤ vr) : tagL (L.drop 1) 0 = none := by
  rcases h with ⟨h2, _⟩ | ⟨_, h⟩
  · omega
  · exact h
theorem rt_stay {L : List Nat} {p vr : Nat} (h : Rt L p vr) (hv : 4294967296 ≤ vr) : Rt L (p + 1) vr := .inr ⟨hv, rt_great h hv⟩

/-! ### What follows the header -/
theorem P_no_hdr {L : List Nat} (h : hdr L = none) : P false L = none := by rw [P_false, h]; rfl
theorem P_no_len {L : List Nat} {cls num p : Nat} {cons : Bool} (h : hdr L = some (cls, num, cons, p)) (hp : L.length ≤ p) : P false L = none := by
  rw [P_false, h, Option.bind_some, if_pos hp]
theorem P_prim {L : List Nat} {cls num p : Nat} (h : hdr L = some (cls, num, false, p)) (hp : p < L.length) (hf : L.getD p 0 = 128) : P false L = none := by
  rw [P_false, h, Option.bind_some, if_neg (show ¬ L.length ≤ p by omega), if_pos (show L.getD p 0 = 128 from hf)]; rfl
theorem P_indef {L : List Nat} {cls num p : Nat} (h : hdr L = some (cls, num, true, p)) (hp : p < L.length) (hf : L.getD p 0 = 128) :
    P false L = (P true (L.drop (p + 1))).map fun s => ⟨cls, num, true, p + 1, p + 1 + s.en - 2, p + 1 + s.en⟩ := by
  rw [P_false, h, Option.bind_some, if_neg (show ¬ L.length ≤ p by omega), if_pos (show L.getD p 0 = 128 from hf)]; rfl
theorem P_ff {L : List Nat} {cls num p : Nat} {cons : Bool} (h : hdr L = some (cls, num, cons, p)) (hp : p < L.length) (hf : L.getD p 0 = 255) : P false L = none := by
  rw [P_false, h, Option.bind_some, if_neg (show ¬ L.length ≤ p by omega), if_neg (show ¬ L.getD p 0 = 128 by omega), if_pos (show L.getD p 0 = 255 from hf)]
theorem P_def {L : List Nat} {cls num p : Nat} {cons : Bool} (h : hdr L = some (cls, num, cons, p)) (hp : p < L.length) (h1 : L.getD p 0 ≠ 128) (h2 : L.getD p 0 ≠ 255) : P false L = defin L cls num cons (L.getD p 0) (p + 1) := by
  rw [P_false, h, Option.bind_some, if_neg (show ¬ L.length ≤ p by omega), if_neg (show ¬ L.getD p 0 = 128 from h1), if_neg (show ¬ L.getD p 0 = 255 from h2)]
theorem def_low {L : List Nat} {cls num first q : Nat} {cons : Bool} (h : first < 128) : defin L cls num cons first q = if first ≤ L.length - q then some ⟨cls, num, cons, q, q + first, q + first⟩ else none := by
  rw [defin, if_pos h]
theorem def_short {L : List Nat} {cls num first q : Nat} {cons : Bool} (h : ¬ first < 128) (h2 : L.length - q < first - 128) : defin L cls num cons first q = none := by
  rw [defin, if_neg h, if_pos h2]
theorem def_high {L : List Nat} {cls num first q v : Nat} {cons : Bool} (h : ¬ first < 128) (h2 : ¬ L.length - q < first - 128) (hv : v = be ((L.drop q).take (first - 128)) 0) :
    defin L cls num cons first q = if v ≤ L.length - (q + (first - 128)) then some ⟨cls, num, cons, q + (first - 128), q + (first - 128) + v, q + (first - 128) + v⟩ else none := by
  rw [defin, if_neg h, if_neg h2, hv]
end Go.Proofs.YbulkdvskFmt
