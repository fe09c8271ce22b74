/-
  THE CALLS THAT MAKE ERRORS: errors.New (7), (Tag).String (11), fmt.Errorf (8) at each of Next's formats: an error that is not nil comes back, its text is readable, and nothing old has turned. Whatever the tape answers for fmt's text: no word is wanted of it.
-/
import Derived.Test.YbulkdvskFmtFacts
import Derived.WalkKit
import Derived.WalkSpells
import Derived.WalkLawsBesides
import Derived.BigCall
import Derived.ProofKit
namespace Go.Proofs.YbulkdvskFmt
open Go.RowKit Go.Extern.Stop Go.Stop Go.Extern
attribute [local go_sem] call10 call12 guardAny fm0 fm1 fm2 fm3 fm4 fm5 fm6 fm7 fm8 fm9 fm10 act26 isString26 str26 act43 op43 op24 act44 act48 isError44 isError48 ptr44 elem44 ptr48 elem48

/-- An error of errors.New's or fmt.Errorf's make, its text readable, in the world w. -/
def IsErr (w : World) (v : Value) : Prop := ∃ (t : Nat) (b : Nat) (s : ByteArray), (t = 44 ∨ t = 48) ∧ v = .iface t (.pointer (some ⟨b, 0, none⟩)) ∧ w.cell? ⟨b, 0, none⟩ = some (.string s)

theorem new_any (s : ByteArray) (w : World) : Calls Ybaf.prog 7 #[.string s] w fun e w' => ∃ v, e = .returned v ∧ IsErr w' v ∧ Below w.heap.size w w' := by
  go_enter Ybaf.func7, Ybaf.ntmps7
  go_wp2
  go_ret
  refine ⟨_, rfl, ⟨44, w.heap.size, s, .inl rfl, rfl, ?_⟩, (Below.refl _ _).alloc (Nat.le_refl _) _⟩
  simp

theorem err44 (w : World) (s : ByteArray) : IsErr (w.alloc (.cells #[.string s] 46)).drew (.iface 44 (.pointer (some ⟨w.heap.size, 0, none⟩))) :=
  ⟨44, w.heap.size, s, .inl rfl, rfl, by simp⟩

theorem err48 (w : World) (s : ByteArray) (v : Value) : IsErr (w.alloc (.cells #[.string s, v] 66)).drew (.iface 48 (.pointer (some ⟨w.heap.size, 0, none⟩))) :=
  ⟨48, w.heap.size, s, .inr rfl, rfl, by simp⟩

theorem below2 (w : World) (o1 o2 : Obj) (q : Nat) : Below w.heap.size w (((w.alloc o1).alloc o2).drewN q) :=
  (((Below.refl _ _).alloc (Nat.le_refl _) o1).alloc (by simp) o2).trans ⟨rfl, rfl, rfl, Nat.le_refl _, fun _ _ => rfl⟩

theorem tag_any (c n : Int) (w : World) : Calls Ybaf.prog 11 #[.agg #[.int .u8 c, .int .u32 n]] w fun e w' => ∃ s, e = .returned (.string s) ∧ Below w.heap.size w w' := by
  rcases Bool.eq_false_or_eq_true (c == 0) with h0 | h0
  · go_enter Ybaf.func11, Ybaf.ntmps11
    go_wp2
    go_ret
    exact ⟨_, rfl, below2 w _ _ 1⟩
  · rcases Bool.eq_false_or_eq_true (c == 1) with h1 | h1
    · go_enter Ybaf.func11, Ybaf.ntmps11
      go_wp2
      go_ret
      exact ⟨_, rfl, below2 w _ _ 1⟩
    · rcases Bool.eq_false_or_eq_true (c == 3) with h3 | h3
      · go_enter Ybaf.func11, Ybaf.ntmps11
        go_wp2
        go_ret
        exact ⟨_, rfl, below2 w _ _ 1⟩
      · go_enter Ybaf.func11, Ybaf.ntmps11
        go_wp2
        go_ret
        exact ⟨_, rfl, below2 w _ _ 1⟩

theorem errorf0 (c n : Int) (blk : Nat) (w : World) (hc : w.cell? ⟨blk, 0, none⟩ = some (.iface 26 (.agg #[.int .u8 c, .int .u32 n]))) :
    Calls Ybaf.prog 8 #[.string ⟨#[37, 118, 58, 32, 116, 104, 101, 32, 111, 99, 116, 101, 116, 115, 32, 101, 110, 100, 32, 98, 101, 102, 111, 114, 101, 32, 105, 116, 115, 32, 108, 101, 110, 103, 116, 104]⟩, .slice (some ⟨blk, 0, none⟩) 1 1] w fun e w' => ∃ v, e = .returned v ∧ IsErr w' v ∧ Below w.heap.size w w' := by
  have hb : blk < w.heap.size := World.block_lt_of_cell? _ _ hc
  go_enter Ybaf.func8, Ybaf.ntmps8
  go_wp2
  apply rows_call nextTurns
  case hr =>
    go_simp
    exact ⟨⟨rfl, rfl, rfl⟩, rfl⟩
  case hi => exact invokeString26 _ _
  case hc =>
    refine (tag_any c n _).mono fun e w₃ ⟨s, he, hx⟩ => ?_
    subst he
    have hc3 : w₃.cell? ⟨blk, 0, none⟩ = some (.iface 26 (.agg #[.int .u8 c, .int .u32 n])) := by rw [hx.cell hb]; exact hc
    apply rows_value nextReturned
    case hr =>
      go_simp
      exact ⟨rfl, rfl⟩
    case h =>
      go_wp2
      go_ret
      exact ⟨_, rfl, err44 _ _, (hx.alloc hx.size _).drew⟩

theorem errorf1 (c n : Int) (blk : Nat) (w : World) (hc : w.cell? ⟨blk, 0, none⟩ = some (.iface 26 (.agg #[.int .u8 c, .int .u32 n]))) :
    Calls Ybaf.prog 8 #[.string ⟨#[37, 118, 58, 32, 105, 110, 100, 101, 102, 105, 110, 105, 116, 101, 32, 108, 101, 110, 103, 116, 104, 32, 111, 110, 32, 97, 32, 112, 114, 105, 109, 105, 116, 105, 118, 101, 32, 101, 108, 101, 109, 101, 110, 116]⟩, .slice (some ⟨blk, 0, none⟩) 1 1] w fun e w' => ∃ v, e = .returned v ∧ IsErr w' v ∧ Below w.heap.size w w' := by
  have hb : blk < w.heap.size := World.block_lt_of_cell? _ _ hc
  go_enter Ybaf.func8, Ybaf.ntmps8
  go_wp2
  apply rows_call nextTurns
  case hr =>
    go_simp
    exact ⟨⟨rfl, rfl, rfl⟩, rfl⟩
  case hi => exact invokeString26 _ _
  case hc =>
    refine (tag_any c n _).mono fun e w₃ ⟨s, he, hx⟩ => ?_
    subst he
    have hc3 : w₃.cell? ⟨blk, 0, none⟩ = some (.iface 26 (.agg #[.int .u8 c, .int .u32 n])) := by rw [hx.cell hb]; exact hc
    apply rows_value nextReturned
    case hr =>
      go_simp
      exact ⟨rfl, rfl⟩
    case h =>
      go_wp2
      go_ret
      exact ⟨_, rfl, err44 _ _, (hx.alloc hx.size _).drew⟩

theorem errorf2 (c n : Int) (blk : Nat) (w : World) (hc : w.cell? ⟨blk, 0, none⟩ = some (.iface 26 (.agg #[.int .u8 c, .int .u32 n]))) :
    Calls Ybaf.prog 8 #[.string ⟨#[37, 118, 58, 32, 108, 101, 110, 103, 116, 104, 32, 111, 99, 116, 101, 116, 32, 48, 120, 102, 102, 44, 32, 119, 104, 105, 99, 104, 32, 88, 46, 54, 57, 48, 32, 114, 101, 115, 101, 114, 118, 101, 115]⟩, .slice (some ⟨blk, 0, none⟩) 1 1] w fun e w' => ∃ v, e = .returned v ∧ IsErr w' v ∧ Below w.heap.size w w' := by
  have hb : blk < w.heap.size := World.block_lt_of_cell? _ _ hc
  go_enter Ybaf.func8, Ybaf.ntmps8
  go_wp2
  apply rows_call nextTurns
  case hr =>
    go_simp
    exact ⟨⟨rfl, rfl, rfl⟩, rfl⟩
  case hi => exact invokeString26 _ _
  case hc =>
    refine (tag_any c n _).mono fun e w₃ ⟨s, he, hx⟩ => ?_
    subst he
    have hc3 : w₃.cell? ⟨blk, 0, none⟩ = some (.iface 26 (.agg #[.int .u8 c, .int .u32 n])) := by rw [hx.cell hb]; exact hc
    apply rows_value nextReturned
    case hr =>
      go_simp
      exact ⟨rfl, rfl⟩
    case h =>
      go_wp2
      go_ret
      exact ⟨_, rfl, err44 _ _, (hx.alloc hx.size _).drew⟩

theorem errorf3 (c n : Int) (blk : Nat) (w : World) (hc : w.cell? ⟨blk, 0, none⟩ = some (.iface 26 (.agg #[.int .u8 c, .int .u32 n]))) :
    Calls Ybaf.prog 8 #[.string ⟨#[37, 118, 58, 32, 116, 104, 101, 32, 111, 99, 116, 101, 116, 115, 32, 101, 110, 100, 32, 105, 110, 115, 105, 100, 101, 32, 105, 116, 115, 32, 108, 101, 110, 103, 116, 104]⟩, .slice (some ⟨blk, 0, none⟩) 1 1] w fun e w' => ∃ v, e = .returned v ∧ IsErr w' v ∧ Below w.heap.size w w' := by
  have hb : blk < w.heap.size := World.block_lt_of_cell? _ _ hc
  go_enter Ybaf.func8, Ybaf.ntmps8
  go_wp2
  apply rows_call nextTurns
  case hr =>
    go_simp
    exact ⟨⟨rfl, rfl, rfl⟩, rfl⟩
  case hi => exact invokeString26 _ _
  case hc =>
    refine (tag_any c n _).mono fun e w₃ ⟨s, he, hx⟩ => ?_
    subst he
    have hc3 : w₃.cell? ⟨blk, 0, none⟩ = some (.iface 26 (.agg #[.int .u8 c, .int .u32 n])) := by rw [hx.cell hb]; exact hc
    apply rows_value nextReturned
    case hr =>
      go_simp
      exact ⟨rfl, rfl⟩
    case h =>
      go_wp2
      go_ret
      exact ⟨_, rfl, err44 _ _, (hx.alloc hx.size _).drew⟩

theorem errorf4 (c n : Int) (blk : Nat) (w : World) (hc : w.cell? ⟨blk, 0, none⟩ = some (.iface 26 (.agg #[.int .u8 c, .int .u32 n]))) :
    Calls Ybaf.prog 8 #[.string ⟨#[37, 118, 58, 32, 108, 101, 110, 103, 116, 104, 32, 100, 111, 101, 115, 32, 110, 111, 116, 32, 102, 105, 116, 32, 105, 110, 32, 54, 52, 32, 98, 105, 116, 115]⟩, .slice (some ⟨blk, 0, none⟩) 1 1] w fun e w' => ∃ v, e = .returned v ∧ IsErr w' v ∧ Below w.heap.size w w' := by
  have hb : blk < w.heap.size := World.block_lt_of_cell? _ _ hc
  go_enter Ybaf.func8, Ybaf.ntmps8
  go_wp2
  apply rows_call nextTurns
  case hr =>
    go_simp
    exact ⟨⟨rfl, rfl, rfl⟩, rfl⟩
  case hi => exact invokeString26 _ _
  case hc =>
    refine (tag_any c n _).mono fun e w₃ ⟨s, he, hx⟩ => ?_
    subst he
    have hc3 : w₃.cell? ⟨blk, 0, none⟩ = some (.iface 26 (.agg #[.int .u8 c, .int .u32 n])) := by rw [hx.cell hb]; exact hc
    apply rows_value nextReturned
    case hr =>
      go_simp
      exact ⟨rfl, rfl⟩
    case h =>
      go_wp2
      go_ret
      exact ⟨_, rfl, err44 _ _, (hx.alloc hx.size _).drew⟩

theorem errorfw44 (c n : Int) (b blk : Nat) (s0 : ByteArray) (w : World) (hc : w.cell? ⟨blk, 0, none⟩ = some (.iface 26 (.agg #[.int .u8 c, .int .u32 n]))) (hc1 : w.cell? ⟨blk, 1, none⟩ = some (.iface 44 (.pointer (some ⟨b, 0, none⟩))))
    (hs : w.cell? ⟨b, 0, none⟩ = some (.string s0)) :
    Calls Ybaf.prog 8 #[.string ⟨#[37, 118, 58, 32, 37, 119]⟩, .slice (some ⟨blk, 0, none⟩) 2 2] w fun e w' => ∃ v, e = .returned v ∧ IsErr w' v ∧ Below w.heap.size w w' := by
  have hb : blk < w.heap.size := World.block_lt_of_cell? _ _ hc
  have hbb : b < w.heap.size := World.block_lt_of_cell? _ _ hs
  go_enter Ybaf.func8, Ybaf.ntmps8
  go_wp2
  apply rows_call nextTurns
  case hr =>
    go_simp
    exact ⟨⟨rfl, rfl, rfl⟩, rfl⟩
  case hi => exact invokeString26 _ _
  case hc =>
    refine (tag_any c n _).mono fun e w₃ ⟨s, he, hx⟩ => ?_
    subst he
    have hc3 : w₃.cell? ⟨blk, 0, none⟩ = some (.iface 26 (.agg #[.int .u8 c, .int .u32 n])) := by rw [hx.cell hb]; exact hc
    have hc13 : w₃.cell? ⟨blk, 1, none⟩ = some (.iface 44 (.pointer (some ⟨b, 0, none⟩))) := by rw [hx.cell hb]; exact hc1
    have hs3 : w₃.cell? ⟨b, 0, none⟩ = some (.string s0) := by rw [hx.cell hbb]; exact hs
    have hop := op44 "fmt.errorf" ⟨b, 0, none⟩ s0 w₃ hs3
    apply rows_value nextReturned
    case hr =>
      go_simp
      exact ⟨rfl, rfl⟩
    case h =>
      go_wp2
      go_ret
      exact ⟨_, rfl, err48 _ _ _, (hx.alloc hx.size _).drew⟩

theorem errorfw48 (c n : Int) (b blk : Nat) (s0 : ByteArray) (w : World) (hc : w.cell? ⟨blk, 0, none⟩ = some (.iface 26 (.agg #[.int .u8 c, .int .u32 n]))) (hc1 : w.cell? ⟨blk, 1, none⟩ = some (.iface 48 (.pointer (some ⟨b, 0, none⟩))))
    (hs : w.cell? ⟨b, 0, none⟩ = some (.string s0)) :
    Calls Ybaf.prog 8 #[.string ⟨#[37, 118, 58, 32, 37, 119]⟩, .slice (some ⟨blk, 0, none⟩) 2 2] w fun e w' => ∃ v, e = .returned v ∧ IsErr w' v ∧ Below w.heap.size w w' := by
  have hb : blk < w.heap.size := World.block_lt_of_cell? _ _ hc
  have hbb : b < w.heap.size := World.block_lt_of_cell? _ _ hs
  go_enter Ybaf.func8, Ybaf.ntmps8
  go_wp2
  apply rows_call nextTurns
  case hr =>
    go_simp
    exact ⟨⟨rfl, rfl, rfl⟩, rfl⟩
  case hi => exact invokeString26 _ _
  case hc =>
    refine (tag_any c n _).mono fun e w₃ ⟨s, he, hx⟩ => ?_
    subst he
    have hc3 : w₃.cell? ⟨blk, 0, none⟩ = some (.iface 26 (.agg #[.int .u8 c, .int .u32 n])) := by rw [hx.cell hb]; exact hc
    have hc13 : w₃.cell? ⟨blk, 1, none⟩ = some (.iface 48 (.pointer (some ⟨b, 0, none⟩))) := by rw [hx.cell hb]; exact hc1
    have hs3 : w₃.cell? ⟨b, 0, none⟩ = some (.string s0) := by rw [hx.cell hbb]; exact hs
    have hop := op48 "fmt.errorf" ⟨b, 0, none⟩ s0 w₃ hs3
    apply rows_value nextReturned
    case hr =>
      go_simp
      exact ⟨rfl, rfl⟩
    case h =>
      go_wp2
      go_ret
      exact ⟨_, rfl, err48 _ _ _, (hx.alloc hx.size _).drew⟩

theorem errorf6 (c n x y : Int) (blk : Nat) (w : World) (hc : w.cell? ⟨blk, 0, none⟩ = some (.iface 26 (.agg #[.int .u8 c, .int .u32 n]))) (hc1 : w.cell? ⟨blk, 1, none⟩ = some (.iface 43 (.int .u64 x))) (hc2 : w.cell? ⟨blk, 2, none⟩ = some (.iface 43 (.int .u64 y))) :
    Calls Ybaf.prog 8 #[.string ⟨#[37, 118, 58, 32, 108, 101, 110, 103, 116, 104, 32, 37, 100, 32, 114, 117, 110, 115, 32, 112, 97, 115, 116, 32, 116, 104, 101, 32, 101, 110, 100, 32, 111, 102, 32, 105, 116, 115, 32, 99, 111, 110, 116, 97, 105, 110, 101, 114, 44, 32, 119, 104, 105, 99, 104, 32, 104, 97, 115, 32, 37, 100, 32, 111, 99, 116, 101, 116, 115, 32, 108, 101, 102, 116]⟩, .slice (some ⟨blk, 0, none⟩) 3 3] w fun e w' => ∃ v, e = .returned v ∧ IsErr w' v ∧ Below w.heap.size w w' := by
  have hb : blk < w.heap.size := World.block_lt_of_cell? _ _ hc
  go_enter Ybaf.func8, Ybaf.ntmps8
  go_wp2
  apply rows_call nextTurns
  case hr =>
    go_simp
    exact ⟨⟨rfl, rfl, rfl⟩, rfl⟩
  case hi => exact invokeString26 _ _
  case hc =>
    refine (tag_any c n _).mono fun e w₃ ⟨s, he, hx⟩ => ?_
    subst he
    have hc3 : w₃.cell? ⟨blk, 0, none⟩ = some (.iface 26 (.agg #[.int .u8 c, .int .u32 n])) := by rw [hx.cell hb]; exact hc
    have hc13 : w₃.cell? ⟨blk, 1, none⟩ = some (.iface 43 (.int .u64 x)) := by rw [hx.cell hb]; exact hc1
    have hc23 : w₃.cell? ⟨blk, 2, none⟩ = some (.iface 43 (.int .u64 y)) := by rw [hx.cell hb]; exact hc2
    apply rows_value nextReturned
    case hr =>
      go_simp
      exact ⟨rfl, rfl⟩
    case h =>
      go_wp2
      go_ret
      exact ⟨_, rfl, err44 _ _, (hx.alloc hx.size _).drew⟩
end Go.Proofs.YbulkdvskFmt
