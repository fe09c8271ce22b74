/-
  bytes.Equal (5) at two slices that hold the same octets; Next and the model at whatever slice.
-/
import Derived.Test.YbulkdvskFmtParse
import Derived.Laws.BytesArg
import Derived.Laws.CopyOwn
import Derived.Deep.OwnRows
import Derived.Lib.SliceRun
namespace Go.Proofs.YbulkdvskFmt
open Go.RowKit

/-- The octets L at a slice's value, nil or not. -/
def Bt (w : World) (p : Option Addr) (n : Nat) (L : List Nat) : Prop :=
  L.length = n ∧ (0 < n → ∃ b o, p = some ⟨b, o, none⟩ ∧ ∀ t, t < n → w.cell? ⟨b, o + t, none⟩ = some (.int .u8 ((L.getD t 0 : Nat) : Int)))

theorem Bt.drewN {w : World} {p : Option Addr} {n : Nat} {L : List Nat} (h : Bt w p n L) (q : Nat) : Bt (w.drewN q) p n L := h
theorem Bt.none {w : World} {p : Option Addr} {L : List Nat} (h : L.length = 0) : Bt w p 0 L := ⟨h, fun h0 => absurd h0 (Nat.lt_irrefl 0)⟩

theorem conv_bytes {w : World} {p : Option Addr} {n : Nat} {L : List Nat} (h : Bt w p n L) (c : Nat) :
    (convert 22 9 (.slice p n c)).run Ybaf.prog w = .ok (.string (strOfNums (L.map fun x : Nat => (x : Int)))) w := by
  obtain ⟨hl, hc⟩ := h
  rcases Nat.eq_zero_or_pos n with hn | hn
  · subst hn
    obtain rfl : L = [] := List.eq_nil_of_length_eq_zero hl
    rw [run_convert_bytes_string w 22 9 5 _ 0 c Ybaf.underlying22 Ybaf.underlying5 Ybaf.underlying9]
    cases p <;> simp [Conv.bytesToString, loadCells]
    all_goals rfl
  · obtain ⟨b, o, rfl, hcell⟩ := hc hn
    exact run_convert_bytes_arg (P := Ybaf.prog) w 22 5 Ybaf.underlying22 Ybaf.underlying5 b o n c _ (by simpa using hl) (fun i hi => by
      rw [hcell i hi]
      have : i < L.length := by omega
      simp [List.getD, List.getElem?_eq_getElem this]) 9 Ybaf.underlying9

set_option maxHeartbeats 1000000 in
theorem equal_same (p1 p2 : Option Addr) (n c d : Nat) (L : List Nat) (w : World) (h1 : Bt w p1 n L) (h2 : Bt w p2 n L) :
    Calls Ybaf.prog 5 #[.slice p1 n c, .slice p2 n d] w fun e w' => e = .returned (.bool true) ∧ w' = w := by
  have g1 := conv_bytes h1 c
  have g2 := conv_bytes h2 d
  clear h1 h2
  generalize strOfNums (L.map fun x : Nat => (x : Int)) = s at g1 g2
  go_enter Ybaf.func5, Ybaf.ntmps5
  go_wp2
  go_ret
  exact ⟨by simp, rfl⟩

/-- The octets L at a slice's value, in blocks that are there. -/
def Row (w : World) (a : Option Addr) (n : Nat) (L : List Nat) : Prop := L.length = n ∧ (∀ t, t < n → L.getD t 0 < 256) ∧ (0 < n → ∃ b o, a = some ⟨b, o, none⟩ ∧ Oct w b o n L)

theorem Row.below {w w' : World} {a : Option Addr} {n : Nat} {L : List Nat} (h : Row w a n L) (hb : Below w.heap.size w w') : Row w' a n L :=
  ⟨h.1, h.2.1, fun h0 => by
    obtain ⟨b, o, e, hO⟩ := h.2.2 h0
    exact ⟨b, o, e, hO.below hb⟩⟩
theorem Row.bt {w : World} {a : Option Addr} {n : Nat} {L : List Nat} (h : Row w a n L) : Bt w a n L :=
  ⟨h.1, fun h0 => by
    obtain ⟨b, o, e, hO⟩ := h.2.2 h0
    exact ⟨b, o, e, hO.2.2.1⟩⟩

/-- What Next leaves, whatever the slice. -/
def AfterA (w : World) (a : Option Addr) (n : Nat) (L : List Nat) (e : Ending) (w' : World) : Prop := (P false L = none ∧ Failed w e w') ∨ ∃ r b o, P false L = some r ∧ a = some ⟨b, o, none⟩ ∧ Found w b o n r e w'

theorem next_gen (a : Option Addr) (n c : Nat) (L : List Nat) (w : World) (h : Row w a n L) (hc : n ≤ c) (hm : n ≤ 1048576) : Calls Ybaf.prog 4 #[.slice a n c] w (AfterA w a n L) := by
  rcases Nat.eq_zero_or_pos n with hn | hn
  · subst hn
    exact (next_empty a c w).mono fun e w' hf => .inl ⟨P_empty h.1, hf⟩
  · obtain ⟨b, o, rfl, hO⟩ := h.2.2 hn
    refine (next_any b o n c L w hO hc hm).mono ?_
    rintro e w' (hf | ⟨r, hr, hf⟩)
    · exact .inl hf
    · exact .inr ⟨r, b, o, hr, rfl, hf⟩

theorem parse_gen (a : Option Addr) (n c : Nat) (L : List Nat) (w : World) (h : Row w a n L) (hc : n ≤ c) (hm : n ≤ 1048576) : Calls Ybaf.prog 6 #[.slice a n c] w (Told w L) := by
  rcases Nat.eq_zero_or_pos n with hn | hn
  · subst hn
    exact parse_empty a c L w h.1
  · obtain ⟨b, o, rfl, hO⟩ := h.2.2 hn
    exact parse_any b o n c L w hO hc hm
end Go.Proofs.YbulkdvskFmt
