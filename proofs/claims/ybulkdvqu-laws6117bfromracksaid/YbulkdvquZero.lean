/-
  CLOSED FACTS for the law from a rack: the zero generator (type 48), the zero board (type 27), a position with a rack (type 54).
-/
import Derived.Test.YbulkdvquBase
import Derived.Deep.MidRow
namespace Go.Proofs.Ybulkdvqu
open Go.RowKit

/-- The empty board's cells. -/
def Bz : List Value := List.replicate 225 (.int .u8 0)
theorem bz_len : Bz.length = 225 := List.length_replicate
theorem bz_one : ∀ v ∈ Bz, v.oneCell' = true := by
  intro v hv
  rw [List.eq_of_mem_replicate hv]; rfl

theorem build27 (w : World) : (Instr.build 27 #[]).run Yba.prog w = .ok (.agg Bz.toArray) w := by kernel_rfl
theorem eql27 (w : World) : (binOp .eql 27 (.agg Bz.toArray) (.agg Bz.toArray)).run Yba.prog w = .ok (.bool true) w := by kernel_rfl
theorem guard27 (w : World) : (eqGuard .eql 27 (.tmp 56) (.tmp 57) (.agg Bz.toArray) (.agg Bz.toArray)).run Yba.prog w = .ok () w := by kernel_rfl
theorem build54 (s : ByteArray) (w : World) : (Instr.build 54 #[(1, .string s)]).run Yba.prog w = .ok (.agg (Bz ++ [Value.string s]).toArray) w := by kernel_rfl
theorem size27 : (Yba.prog.info? 27).map (·.size) = some 225 := by kernel_rfl
theorem size25 : (Yba.prog.info? 25).map (·.size) = some 15 := by kernel_rfl
theorem size29 : (Yba.prog.info? 29).map (·.size) = some 27 := by kernel_rfl
theorem size48 : (Yba.prog.info? 48).map (·.size) = some 5142 := by kernel_rfl
theorem size54 : (Yba.prog.info? 54).map (·.size) = some 226 := by kernel_rfl

theorem set_same (Z : Array Value) (i : Nat) (v : Value) (h : Z[i]? = some v) : Z.setIfInBounds i v = Z := by
  apply Array.ext_getElem?
  intro j
  rw [Array.getElem?_setIfInBounds]
  by_cases e : i = j
  · subst e
    rw [if_pos rfl, h]
    have := (Array.getElem?_eq_some_iff.1 h).1
    simp [this]
  · rw [if_neg e]

/-- The zero generator, as a literal without parts and as one with a nil lexicon. -/
theorem gen_zero : ∃ Z : Array Value, Z.size = 5142 ∧ (∀ v ∈ Z.toList, v.oneCell' = true) ∧ (∀ w, (Instr.build 48 #[]).run Yba.prog w = .ok (.agg Z) w) ∧ (∀ w, (Instr.build 48 #[(0, .pointer none)]).run Yba.prog w = .ok (.agg Z) w) ∧
    Z[0]? = some (.pointer none) ∧ Z[271]? = some (.slice none 0 0) ∧ Z[272]? = some (.slice none 0 0) ∧ Z[4924]? = some (.slice none 0 0) ∧ Z[270]? = some (.int .u32 0) ∧ (Z.toList.drop 243).take 27 = List.replicate 27 (.int .i64 0) ∧ (Z.toList.drop 1).take 225 = Bz := by
  have h0 : (match Yba.t48.zero with | some (.agg z) => z | _ => #[])[0]? = some (.pointer none) := by kernel_rfl
  have h1 : (match Yba.t48.zero with | some (.agg z) => z | _ => #[]).toList.all (fun v => v.oneCell') = true := by kernel_rfl
  have h2 : ∀ w, (Instr.build 48 #[]).run Yba.prog w = .ok (.agg (match Yba.t48.zero with | some (.agg z) => z | _ => #[])) w := fun w => by kernel_rfl
  have h3 : ∀ w, (Instr.build 48 #[(0, .pointer none)]).run Yba.prog w = .ok (.agg ((match Yba.t48.zero with | some (.agg z) => z | _ => #[]).setIfInBounds 0 (.pointer none))) w := fun w => by kernel_rfl
  have h4 : (match Yba.t48.zero with | some (.agg z) => z | _ => #[]).size = 5142 := by kernel_rfl
  have h5 : (match Yba.t48.zero with | some (.agg z) => z | _ => #[])[271]? = some (.slice none 0 0) := by kernel_rfl
  have h6 : (match Yba.t48.zero with | some (.agg z) => z | _ => #[])[272]? = some (.slice none 0 0) := by kernel_rfl
  have h7 : (match Yba.t48.zero with | some (.agg z) => z | _ => #[])[4924]? = some (.slice none 0 0) := by kernel_rfl
  have h8 : (match Yba.t48.zero with | some (.agg z) => z | _ => #[])[270]? = some (.int .u32 0) := by kernel_rfl
  have h9 : ((match Yba.t48.zero with | some (.agg z) => z | _ => #[]).toList.drop 243).take 27 = List.replicate 27 (.int .i64 0) := by kernel_rfl
  have h10 : ((match Yba.t48.zero with | some (.agg z) => z | _ => #[]).toList.drop 1).take 225 = Bz := by kernel_rfl
  generalize (match Yba.t48.zero with | some (.agg z) => z | _ => #[]) = Z at h0 h1 h2 h3 h4 h5 h6 h7 h8 h9 h10
  rw [set_same Z 0 _ h0] at h3
  exact ⟨Z, h4, List.all_eq_true.1 h1, h2, h3, h0, h5, h6, h7, h8, h9, h10⟩
end Go.Proofs.Ybulkdvqu
