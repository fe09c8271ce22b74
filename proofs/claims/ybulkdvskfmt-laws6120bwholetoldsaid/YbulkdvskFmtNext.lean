/-
  Next (4).
-/
import Derived.Test.YbulkdvskFmtErrs
import Derived.Test.YbulkdvskFmtSpec
import Derived.Deep.DeepCutAuto
import Derived.Deep.QuietTactic
import Derived.BigQuiet
import Derived.Deep.MidRow
namespace Go.Proofs.YbulkdvskFmt
open Go.RowKit

/-- The zero Element. -/
def Z5 : Array Value := #[.int .u8 0, .int .u32 0, .bool false, .slice none 0 0, .slice none 0 0]

/-- What Next leaves where there is no element. -/
def Failed (w : World) (e : Ending) (w' : World) : Prop := ∃ v, e = .returned (.tuple #[.agg Z5, .slice none 0 0, v]) ∧ IsErr w' v ∧ Below w.heap.size w w'

theorem bcell {B : Nat} {W w1 : World} (hb : Below B W w1) {b o : Nat} {v : Value} (h : b < B) (hc : W.cell? ⟨b, o, none⟩ = some v) : w1.cell? ⟨b, o, none⟩ = some v := (hb.cell (p := ⟨b, o, none⟩) h).trans hc
theorem bfroz {B : Nat} {W w1 : World} (hb : Below B W w1) {b o : Nat} (h : b < B) (hc : W.frozen? ⟨b, o, none⟩ = false) : w1.frozen? ⟨b, o, none⟩ = false := (hb.frozen (p := ⟨b, o, none⟩) h).trans hc

theorem size28 : (Ybaf.prog.info? 28).map (·.size) = some 5 := by kernel_rfl
theorem z5_one : Z5.all (·.oneCell') = true := by kernel_rfl

/-- The three results, read where they lie. -/
theorem results4 (tmps : Array Value) (w : World) (r : Nat) (cs : List Value) (hl : cs.length = 5) (hp : tmps.getD 2 undef = .pointer (some ⟨r, 0, none⟩)) (hr : w.rangeAt r 0 cs) :
    (results Ybaf.f4 tmps).run Ybaf.prog w = .ok (.tuple #[.agg cs.toArray, tmps.getD 3 undef, tmps.getD 4 undef]) w := by
  have hv := run_loadVar_mid (P := Ybaf.prog) w r 0 28 cs _ hr Ybaf.underlying28 rfl (by rw [hl]; exact size28)
  have hp' : tmps[2]?.getD undef = .pointer (some ⟨r, 0, none⟩) := by simpa using hp
  simp [results, Ybaf.results4, hp', asAddr, hv]

/-- Behind the call that made the error: the result's block is there. -/
theorem res_there {W w1 : World} {r : Nat} (hb : Below W.heap.size W w1) (hr : W.heap[r]? = some (.cells Z5 28 (0, 0))) : w1.there r 0 5 := fun j hj => by
  have hlt : r < W.heap.size := (Array.getElem?_eq_some_iff.1 hr).1
  have h1 : w1.heap[r]? = some (.cells Z5 28 (0, 0)) := (hb.block r hlt).trans hr
  rw [Nat.zero_add]
  refine ⟨?_, frozen_of_row w1 r j Z5 28 h1⟩
  rw [cell_of_row w1 r j Z5 28 (0, 0) h1]
  have : j < Z5.size := hj
  simp [this]

theorem err_kept {w1 : World} {v : Value} {r : Nat} (hv : IsErr w1 v) (hr : ∃ k, w1.cell? ⟨r, 0, none⟩ = some (.int .u8 k)) : IsErr (w1.setCells r 0 Z5.toList) v := by
  obtain ⟨t, b, s, ht, rfl, hc⟩ := hv
  refine ⟨t, b, s, ht, rfl, ?_⟩
  rw [World.cell?_setCells_out r Z5.toList 0 w1 ⟨b, 0, none⟩ (fun e _ => ?_)]
  · exact hc
  · have e' : b = r := e
    subst e'
    obtain ⟨k, hk⟩ := hr
    rw [hk] at hc
    cases hc

theorem sets_below : ∀ (vs : List Value) (w1 : World) (B r o : Nat), B ≤ r → Below B w1 (w1.setCells r o vs)
  | [], w1, B, r, o, _ => Below.refl _ _
  | v :: vs, w1, B, r, o, h => by
    rw [World.setCells]
    exact ((Below.refl B w1).setCell (p := ⟨r, o, none⟩) h v).trans (sets_below vs _ B r (o + 1) h)

/-- THE END OF EVERY WAY THAT FAILS: the error v is made; the zero Element is stored; the three results are handed back. -/
theorem fail_end {Q : Ending → World → Prop} {w W w1 : World} {v : Value} {tmps : Array Value} (hQ : ∀ e w', Failed w e w' → Q e w') (hv : IsErr w1 v) (hb : Below W.heap.size W w1) (hr : W.heap[w.heap.size]? = some (.cells Z5 28 (0, 0))) (hW : Below w.heap.size w W)
    (h2 : tmps.getD 2 undef = .pointer (some ⟨w.heap.size, 0, none⟩)) (h3 : tmps.getD 3 undef = .slice none 0 0) (h4 : tmps.getD 4 undef = v) :
    bodyPost Ybaf.prog Ybaf.f4 Q .ret { tmps := tmps, defers := [] } (w1.setCells w.heap.size 0 Z5.toList) := by
  have ht := res_there hb hr
  have hlt : w.heap.size < W.heap.size := (Array.getElem?_eq_some_iff.1 hr).1
  have hk : ∃ k, w1.cell? ⟨w.heap.size, 0, none⟩ = some (.int .u8 k) := ⟨0, bcell hb hlt (by rw [cell_of_row W _ 0 Z5 28 (0, 0) hr]; rfl)⟩
  refine bodyPost_ret (v := .tuple #[.agg Z5, .slice none 0 0, v]) ?_ rfl (hQ _ _ ⟨v, rfl, err_kept hv hk, (hW.trans (hb.mono (by omega))).trans (sets_below _ _ _ _ _ (Nat.le_refl _))⟩)
  rw [results4 tmps _ w.heap.size Z5.toList rfl h2 (World.rangeAt_setCells_same _ _ _ _ ht), h3, h4]

set_option maxHeartbeats 400000 in
set_option maxRecDepth 100000 in
theorem next_empty (a : Option Addr) (c : Nat) (w : World) : Calls Ybaf.prog 4 #[.slice a 0 c] w (Failed w) := by
  obtain ⟨W, hW⟩ : ∃ W, W = w.alloc (.cells Z5 28) := ⟨_, rfl⟩
  have hr : W.heap[w.heap.size]? = some (.cells Z5 28 (0, 0)) := by rw [hW]; exact heap_alloc_new w _
  have hB : Below w.heap.size w W := by rw [hW]; exact (Below.refl _ _).alloc (Nat.le_refl _) _
  subst hW
  go_enter Ybaf.func4, Ybaf.ntmps4
  go_wp2_with (first | (go_at_call 7; refine (new_any _ _).mono ?_; rintro e w1 ⟨v, rfl, hv, hb⟩; have ht := res_there hb hr) | (refine wpList_store_mid rfl 28 (.tmp 2) (.tmp 22) rfl w.heap.size 0 Z5 rfl rfl ht size28 z5_one ?_))
  exact fail_end (fun _ _ h => h) hv hb hr hB rfl rfl rfl
end Go.Proofs.YbulkdvskFmt
