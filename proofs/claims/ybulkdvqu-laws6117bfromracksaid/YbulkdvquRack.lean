/-
  THE PLAIN LAW of LawS6117BFromRack: what the rack's bytes count to; which bits are set.
-/
import Derived.Test.YbulkdvquOcc
import Derived.Laws.BitsAllLaws
namespace Go.Proofs.Ybulkdvqu
open Go.RowKit

/-- How many of the bytes l the rack counts at j. -/
def cnt (l : List UInt8) (j : Nat) : Nat := l.countP fun b => slotOf b.toNat == j
/-- The rack's 27 counts. -/
def rackOf (l : List UInt8) : List Int := (List.range 27).map fun j => (cnt l j : Int)
theorem rack_len (l : List UInt8) : (rackOf l).length = 27 := by simp [rackOf]
theorem rack_nil : rackOf [] = List.replicate 27 0 := by decide
theorem rack_get (l : List UInt8) (j : Nat) (h : j < 27) : (rackOf l)[j]? = some (cnt l j : Int) := by simp [rackOf, h]
theorem cnt_le (l : List UInt8) (j : Nat) : cnt l j ≤ l.length := List.countP_le_length
theorem cnt_snoc (l : List UInt8) (b : UInt8) (j : Nat) : cnt (l ++ [b]) j = cnt l j + if slotOf b.toNat = j then 1 else 0 := by
  unfold cnt
  rw [List.countP_append]
  by_cases h : slotOf b.toNat = j <;> simp [h]
theorem rack_snoc (l : List UInt8) (b : UInt8) : rackOf (l ++ [b]) = (rackOf l).set (slotOf b.toNat) ((cnt l (slotOf b.toNat) : Int) + 1) := by
  apply List.ext_getElem?
  intro j
  have hs := slot_le b.toNat
  by_cases hj : j < 27
  · rw [rack_get _ j hj, cnt_snoc, List.getElem?_set]
    by_cases e : slotOf b.toNat = j
    · subst e
      simp [rack_len, hj]
    · rw [if_neg e, if_neg e, rack_get _ j hj]; simp
  · rw [List.getElem?_eq_none (by rw [rack_len]; omega), List.getElem?_eq_none (by simp [rack_len]; omega)]

/-- The slots below k at which the rack counts a tile, a bit each. -/
def heldOf (l : List UInt8) : Nat → Nat
  | 0 => 0
  | k + 1 => if 0 < cnt l k then heldOf l k ||| 2 ^ k else heldOf l k

theorem held_lt (l : List UInt8) : ∀ k, heldOf l k < 2 ^ k
  | 0 => by simp [heldOf]
  | k + 1 => by
    have h := held_lt l k
    unfold heldOf
    split
    · exact Nat.or_lt_two_pow (by rw [Nat.pow_succ]; omega) (by rw [Nat.pow_succ]; have := Nat.two_pow_pos k; omega)
    · rw [Nat.pow_succ]; omega

theorem held_bit (l : List UInt8) (i : Nat) : ∀ k, (heldOf l k).testBit i = (decide (i < k) && decide (0 < cnt l i))
  | 0 => by simp [heldOf]
  | k + 1 => by
    have ih := held_bit l i k
    unfold heldOf
    by_cases hc : 0 < cnt l k
    · rw [if_pos hc, Nat.testBit_or, ih, Nat.testBit_two_pow]
      by_cases e : k = i
      · subst e; simp [hc]
      · have : (i < k + 1) ↔ (i < k) := by omega
        simp [e, this]
    · rw [if_neg hc, ih]
      by_cases e : i = k
      · subst e; simp [hc]
      · have : (i < k + 1) ↔ (i < k) := by omega
        simp [this]

/-- The law's own set: of the letters alone. -/
def setOf : List UInt8 → Nat
  | [] => 0
  | b :: l => if 65 ≤ b.toNat ∧ b.toNat ≤ 90 then 2 ^ (b.toNat - 65) ||| setOf l else setOf l
/-- Is some byte no letter? -/
def blankOf : List UInt8 → Bool
  | [] => false
  | b :: l => if 65 ≤ b.toNat ∧ b.toNat ≤ 90 then blankOf l else true

theorem set_snoc (l : List UInt8) (b : UInt8) : setOf (l ++ [b]) = if 65 ≤ b.toNat ∧ b.toNat ≤ 90 then setOf l ||| 2 ^ (b.toNat - 65) else setOf l := by
  induction l with
  | nil => simp [setOf]
  | cons c l ih =>
    simp only [List.cons_append, setOf, ih]
    split <;> split <;> simp [Nat.or_assoc]
theorem blank_snoc (l : List UInt8) (b : UInt8) : blankOf (l ++ [b]) = if 65 ≤ b.toNat ∧ b.toNat ≤ 90 then blankOf l else true := by
  induction l with
  | nil => simp [blankOf]
  | cons c l ih =>
    simp only [List.cons_append, blankOf, ih]
    split <;> split <;> simp_all
theorem set_lt (l : List UInt8) : setOf l < 2 ^ 26 := by
  induction l with
  | nil => simp [setOf]
  | cons c l ih =>
    unfold setOf
    split
    · exact Nat.or_lt_two_pow (Nat.pow_lt_pow_right (by decide) (by omega)) ih
    · exact ih

theorem slot_letter (c : Nat) (h : 65 ≤ c ∧ c ≤ 90) : slotOf c = c - 65 := by unfold slotOf; omega
theorem slot_other (c : Nat) (hc : c < 256) (h : ¬ (65 ≤ c ∧ c ≤ 90)) : slotOf c = 26 := by unfold slotOf; omega

theorem cnt_cons (b : UInt8) (l : List UInt8) (j : Nat) : cnt (b :: l) j = cnt l j + if slotOf b.toNat = j then 1 else 0 := by
  unfold cnt
  by_cases h : slotOf b.toNat = j <;> simp [h]

theorem blank_cnt (l : List UInt8) : blankOf l = decide (0 < cnt l 26) := by
  induction l with
  | nil => simp [blankOf, cnt]
  | cons b l ih =>
    rw [cnt_cons]
    unfold blankOf
    by_cases h : 65 ≤ b.toNat ∧ b.toNat ≤ 90
    · rw [if_pos h, ih, slot_letter _ h, if_neg (by omega)]; simp
    · rw [if_neg h, slot_other _ (UInt8.toNat_lt b) h]; simp

theorem set_bit (l : List UInt8) (i : Nat) : (setOf l).testBit i = (decide (i < 26) && decide (0 < cnt l i)) := by
  induction l with
  | nil => simp [setOf, cnt]
  | cons b l ih =>
    rw [cnt_cons]
    unfold setOf
    by_cases h : 65 ≤ b.toNat ∧ b.toNat ≤ 90
    · rw [if_pos h, Nat.testBit_or, ih, Nat.testBit_two_pow, slot_letter _ h]
      by_cases e : b.toNat - 65 = i
      · have : i < 26 := by omega
        simp [e, this]
      · simp [e]
    · rw [if_neg h, ih, slot_other _ (UInt8.toNat_lt b) h]
      by_cases e : 26 = i
      · subst e; simp
      · simp [e]

/-- Without a blank the generator's set is the law's. -/
theorem held_set (l : List UInt8) (h : blankOf l = false) : heldOf l 27 = setOf l := by
  apply Nat.eq_of_testBit_eq
  intro i
  rw [held_bit, set_bit]
  by_cases e : i = 26
  · subst e
    rw [blank_cnt] at h
    simp at h
    simp [h]
  · have : (i < 27) ↔ (i < 26) := by omega
    simp [this]

theorem held_blank (l : List UInt8) : (heldOf l 27).testBit 26 = blankOf l := by
  rw [held_bit, blank_cnt]; simp
end Go.Proofs.Ybulkdvqu
