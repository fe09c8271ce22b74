/-
  THE CALLEES' CONTRACTS AS THE LAW MEETS THEM: each result written out as a slice value; where each row lies is told by two block numbers.
-/
import Derived.Test.YbulkdvpsEqual
import Derived.Test.YbulkdvpsClone
import Derived.Test.YbulkdvpsBuild
import Derived.Test.YbulkdvpsModel
import Derived.Test.YbulkdvpsIntersect
namespace Go.Proofs.Ybulkdvps
open Go.RowKit

/-- The slice (a, n) holds xs, in a block from lo on and below hi. -/
def HasIn (w : World) (lo hi : Nat) (a : Option Addr) (n : Nat) (xs : List Int) : Prop :=
  xs.length = n ∧ (0 < n → ∃ b off, a = some ⟨b, off, none⟩ ∧ lo ≤ b ∧ b < hi ∧ ∀ t, t < n → w.cell? ⟨b, off + t, none⟩ = some (.int .i64 (xs.getD t 0)))

theorem HasIn.has {w : World} {lo hi : Nat} {a : Option Addr} {n : Nat} {xs : List Int} (h : HasIn w lo hi a n xs) (hh : hi ≤ w.heap.size) : Has w a n xs :=
  ⟨h.1, fun hn => by
    obtain ⟨b, off, e, _, h2, h3⟩ := h.2 hn
    exact ⟨b, off, e, by omega, h3⟩⟩

theorem HasIn.below {w w' : World} {lo hi B : Nat} {a : Option Addr} {n : Nat} {xs : List Int} (h : HasIn w lo hi a n xs) (hb : Below B w w') (hh : hi ≤ B) : HasIn w' lo hi a n xs :=
  ⟨h.1, fun hn => by
    obtain ⟨b, off, e, h1, h2, h3⟩ := h.2 hn
    exact ⟨b, off, e, h1, h2, fun t ht => (hb.cell (p := ⟨b, off + t, none⟩) (by show b < B; omega)).trans (h3 t ht)⟩⟩

theorem HasIn.grown {w w' : World} {lo hi : Nat} {row : Option Nat} {a : Option Addr} {n : Nat} {xs : List Int} (h : HasIn w lo hi a n xs) (hg : w.grownBy w' row) (hr : ∀ g, row = some g → g < lo ∨ hi ≤ g) : HasIn w' lo hi a n xs :=
  ⟨h.1, fun hn => by
    obtain ⟨b, off, e, h1, h2, h3⟩ := h.2 hn
    exact ⟨b, off, e, h1, h2, fun t ht => hg.cell (h3 t ht) (fun e => by rcases hr b e.symm with h | h <;> omega)⟩⟩

theorem HasIn.ofOwn {w : World} {base n c : Nat} {a : Option Addr} {xs : List Int} (h : w.ownsRow base 3 1 (.slice a n c) n (xs.map (Value.int .i64))) : HasIn w base w.heap.size a n xs := by
  obtain ⟨a', c', e, _, _, hh, _⟩ := Has.ofOwn h
  cases e
  refine ⟨hh.1, fun hn => ?_⟩
  obtain ⟨b, off, e, h2, h3⟩ := hh.2 hn
  subst e
  exact ⟨b, off, rfl, (h.lt b rfl).1, h2, h3⟩

/-- What an owned slice's value is. -/
theorem own_form {w : World} {base n : Nat} {v : Value} {xs : List Value} (h : w.ownsRow base 3 1 v n xs) : ∃ a c, v = .slice a n c ∧ n ≤ c ∧ c ≤ maxLen ∧ (a = none → c = 0) ∧ (∀ p, a = some p → ∃ g, p = ⟨g, 0, none⟩) := by
  rcases h.2 with ⟨rfl, rfl⟩ | ⟨g, cap, cur, rfl, hb, hg, hnc, hcm, hcs, htake⟩
  · exact ⟨none, 0, rfl, Nat.le_refl _, by unfold maxLen; omega, fun _ => rfl, fun p hp => by cases hp⟩
  · exact ⟨some ⟨g, 0, none⟩, cap, rfl, hnc, hcm, fun h => (by cases h), fun p hp => (by cases hp; exact ⟨g, rfl⟩)⟩

theorem build_row (bs : Int) (a : Option Addr) (n c : Nat) (zs : List Int) (w : World) (hbs : -128 ≤ bs) (hbs' : bs ≤ 127) (hm : n ≤ 4096) (hzl : n ≤ zs.length)
    (h : 0 < n → ∃ b off, a = some ⟨b, off, none⟩ ∧ b < w.heap.size ∧ ∀ t, t < n → w.cell? ⟨b, off + t, none⟩ = some (.int .u8 (zs.getD t 0))) (hz : ∀ t, t < n → 0 ≤ zs.getD t 0 ∧ zs.getD t 0 ≤ 255) :
    Calls Yba.prog 4 #[.int .i8 bs, .slice a n c] w fun e w' => ∃ (g c' : Nat) (xs : List Int), e = .returned (.slice (some ⟨g, 0, none⟩) n c') ∧ Asc xs ∧ n ≤ c' ∧ w.heap.size ≤ g ∧ g < w'.heap.size ∧ HasIn w' w.heap.size w'.heap.size (some ⟨g, 0, none⟩) n xs ∧ Below w.heap.size w w' := by
  refine (build_any bs a n c zs w hbs hbs' hm hzl h hz).mono ?_
  rintro e w' ⟨v, xs, rfl, hnn, hasc, hown, hb⟩
  obtain ⟨a', c', rfl, hnc, _, hnil, hg⟩ := own_form hown
  cases a' with
  | none =>
    have h0 := hnil rfl
    have : n = 0 := by omega
    subst this; subst h0
    exact absurd rfl hnn
  | some p =>
    obtain ⟨g, rfl⟩ := hg p rfl
    exact ⟨g, c', xs, rfl, hasc, hnc, (hown.lt g rfl).1, (hown.lt g rfl).2, HasIn.ofOwn hown, hb⟩

theorem clone_row (a : Option Addr) (n c : Nat) (xs : List Int) (w : World) (hnil : a = none → c = 0) (hm : n ≤ 1048576) (h : Has w a n xs) :
    Calls Yba.prog 5 #[.slice a n c] w fun e w' => ∃ a' c', e = .returned (.slice a' n c') ∧ (a' = none ↔ a = none) ∧ w'.ownsRow w.heap.size 3 1 (.slice a' n c') n (xs.map (Value.int .i64)) ∧ Below w.heap.size w w' := by
  refine (clone_any a n c xs w hnil hm h).mono ?_
  rintro e w' ⟨v, rfl, hiff, hown, hb⟩
  obtain ⟨a', c', rfl, hnc, _, hnil', hg⟩ := own_form hown
  refine ⟨a', c', rfl, ?_, hown, hb⟩
  rw [← hiff]
  constructor
  · intro e
    have := hnil' e
    subst e; subst this
    have : n = 0 := by omega
    rw [this]
  · intro e
    cases e
    rfl

theorem model_row (ga gb la ca lb cb : Nat) (A B : List Int) (w : World) (hla : la ≤ 4096) (hlb : lb ≤ 4096) (hasc : Asc A) (hga : ga < w.heap.size) (hgb : gb < w.heap.size)
    (ha : Has w (some ⟨ga, 0, none⟩) la A) (hb : Has w (some ⟨gb, 0, none⟩) lb B) :
    Calls Yba.prog 6 #[.slice (some ⟨ga, 0, none⟩) la ca, .slice (some ⟨gb, 0, none⟩) lb cb] w fun e w' => ∃ g c', e = .returned (.slice (some ⟨g, 0, none⟩) (inter A B).length c') ∧ HasIn w' w.heap.size w'.heap.size (some ⟨g, 0, none⟩) (inter A B).length (inter A B) ∧ Below w.heap.size w w' := by
  have ca' : ∀ t, t < la → w.cell? ⟨ga, 0 + t, none⟩ = some (.int .i64 (A.getD t 0)) := fun t ht => by
    obtain ⟨b, off, e, _, h3⟩ := ha.2 (by omega)
    cases e
    exact h3 t ht
  have cb' : ∀ t, t < lb → w.cell? ⟨gb, 0 + t, none⟩ = some (.int .i64 (B.getD t 0)) := fun t ht => by
    obtain ⟨b, off, e, _, h3⟩ := hb.2 (by omega)
    cases e
    exact h3 t ht
  refine (model_some ga 0 la ca gb 0 lb cb A B w hla hlb ha.1 hb.1 hasc hga hgb ca' cb').mono ?_
  rintro e w' ⟨v, rfl, hnn, hown, hbl⟩
  obtain ⟨a', c', rfl, hnc, _, hnil, hg⟩ := own_form hown
  cases a' with
  | none =>
    have h0 := hnil rfl
    have : (inter A B).length = 0 := by omega
    rw [this, h0] at hnn
    exact absurd rfl hnn
  | some p =>
    obtain ⟨g, rfl⟩ := hg p rfl
    exact ⟨g, c', rfl, HasIn.ofOwn hown, hbl⟩

theorem intersect_row (base : Nat) (ad : Option Addr) (nd cd : Nat) (ds : List Int) (ga gb la ca lb cb : Nat) (A B : List Int) (w : World) (hd : w.ownsRow base 3 1 (.slice ad nd cd) nd (ds.map (Value.int .i64))) (hbase : base ≤ w.heap.size) (hnd : nd ≤ 1048576)
    (hla : la ≤ 4096) (hlca : la ≤ ca) (hlcb : lb ≤ cb) (hascA : Asc A) (hascB : Asc B) (hga : ga < base) (hgb : gb < base)
    (ha : Has w (some ⟨ga, 0, none⟩) la A) (hb : Has w (some ⟨gb, 0, none⟩) lb B) :
    Calls Yba.prog 7 #[.slice ad nd cd, .slice (some ⟨ga, 0, none⟩) la ca, .slice (some ⟨gb, 0, none⟩) lb cb] w fun e w' => ∃ a' c', e = .returned (.slice a' (nd + (inter A B).length) c') ∧ nd + (inter A B).length ≤ c' ∧ c' ≤ maxLen ∧
      (a' = none ↔ ad = none ∧ (inter A B).length = 0) ∧ (∀ p, a' = some p → ∃ g, p = ⟨g, 0, none⟩) ∧ Has w' a' (nd + (inter A B).length) (ds ++ inter A B) ∧ Has w' ad nd ds ∧ w.grownBy w' (Value.slice ad nd cd).ownBlock ∧ Below base w w' := by
  have hlt := hd.lt
  have ca' : ∀ t, t < la → w.cell? ⟨ga, 0 + t, none⟩ = some (.int .i64 (A.getD t 0)) := fun t ht => by
    obtain ⟨b, off, e, _, h3⟩ := ha.2 (by omega)
    cases e
    exact h3 t ht
  have cb' : ∀ t, t < lb → w.cell? ⟨gb, 0 + t, none⟩ = some (.int .i64 (B.getD t 0)) := fun t ht => by
    obtain ⟨b, off, e, _, h3⟩ := hb.2 (by omega)
    cases e
    exact h3 t ht
  refine (intersect_some base (.slice ad nd cd) nd ds ga 0 la ca gb 0 lb cb A B w hd hbase hnd hla hlca hlcb ha.1 hb.1 hascA hascB (fun e => by have := (hlt ga e.symm).1; omega) (fun e => by have := (hlt gb e.symm).1; omega) ca' cb').mono ?_
  rintro e w' ⟨v, rfl, ho⟩
  have hown := ho.own
  have hold := ho.old
  obtain ⟨a', c', rfl, hnc, hcm, hnil, hg⟩ := own_form hown
  obtain ⟨a2, c2, e2, hnc2, _, hnil2, _⟩ := own_form hold
  cases e2
  refine ⟨a', c', rfl, hnc, hcm, ?_, hg, ?_, ?_, ho.grown, ?_⟩
  · have hn := ho.nil
    constructor
    · intro e
      have h0 := hnil e
      have h1 : nd + (inter A B).length = 0 := by omega
      rw [e, h0, h1] at hn
      have := hn.1 rfl
      refine ⟨by cases this.1; rfl, by omega⟩
    · rintro ⟨e, h1⟩
      have h0 := hnil2 e
      have h2 : nd = 0 := by omega
      subst e; subst h0; subst h2
      exact (Value.slice.inj (hn.2 ⟨rfl, List.eq_nil_of_length_eq_zero h1⟩)).1
  · obtain ⟨_, _, e3, _, _, hh, _⟩ := Has.ofOwn hown
    cases e3
    exact hh
  · obtain ⟨_, _, e3, _, _, hh, _⟩ := Has.ofOwn hold
    cases e3
    exact hh
  · exact (Below.refl _ _).grown ho.grown hbase fun k hk => (hlt k hk).1
end Go.Proofs.Ybulkdvps
