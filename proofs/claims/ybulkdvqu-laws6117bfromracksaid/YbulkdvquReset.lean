/-
  reset (8) of a generator, at a position with an empty board and the rack s.
-/
import Derived.Test.YbulkdvquRack
import Derived.Deep.RegionWith
import Derived.Deep.RegionHeld3
import Derived.RegionTactic
import Derived.Deep.DrawnRows
import Derived.Deep.Cut
namespace Go.Proofs.Ybulkdvqu
open Go.RowKit

section
variable {P : Program} {ops : Array Oper} {rest : List Oper} {o : Oper} {a : Act} {w : World} {Q : Exit → Act → World → Prop}
/-- A composite literal without parts, its run known. -/
theorem wpList_build0 (hgd : o.guard = Option.none) (t : Nat) (ho : o.op = .build t #[]) (v : Value) (hr : (Instr.build t #[]).run P w = .ok v w)
    (h : wpList P ops Q rest (a.put o.dst v) w) : wpList P ops Q (o :: rest) a w := by
  refine wpList_plain hgd fun K hK => ?_
  unfold Oper.wp execOp
  simp only [ho, List.map_toArray, List.map_nil, Sem.run_bind, Sem.run_pure, hr, Result.andThen_ok]
  exact hK _ _ h
end

/-- THE STATE that reset walks through: the generator's block bg, the position's copy bp, the rack's counts R, the set H. -/
structure St (w W : World) (bg bp : Nat) (s : ByteArray) (R : List Int) (H : Int) : Prop where
  below : Below bg w W
  all : W.there bg 0 5142
  held : W.cell? ⟨bg, 270, none⟩ = some (.int .u32 H)
  rack : W.rangeAt bg 243 (R.map (Value.int .i64))
  str : W.cell? ⟨bp, 225, none⟩ = some (.string s)
  board : W.rangeAt bp 0 Bz
  len : R.length = 27
  lt : bg < bp

theorem St.wrote {w W W' : World} {bg bp : Nat} {s : ByteArray} {R : List Int} {H : Int} {lo hi : Nat} (h : St w W bg bp s R H) (k : Wrote W W' bg lo hi) (ho : hi ≤ 243 ∨ 271 ≤ lo) : St w W' bg bp s R H :=
  ⟨h.below.trans (k.below (Nat.le_refl _)), k.still h.all, (k.cell 270 (by omega)).trans h.held, k.range h.rack (by simp [h.len]; omega), (k.far (by have := h.lt; omega)).trans h.str, k.rangeFar h.board (by have := h.lt; omega), h.len, h.lt⟩

theorem St.set {w W : World} {bg bp : Nat} {s : ByteArray} {R : List Int} {H : Int} (h : St w W bg bp s R H) (o : Nat) (v : Value) (ho : o < 243 ∨ 271 ≤ o) : St w (W.setCell ⟨bg, o, none⟩ v) bg bp s R H :=
  h.wrote (Wrote.set W bg o (o + 1) o v (Nat.le_refl _) (Nat.lt_succ_self _)) (by omega)

theorem St.drewN {w W : World} {bg bp : Nat} {s : ByteArray} {R : List Int} {H : Int} (h : St w W bg bp s R H) (q : Nat) : St w (W.drewN q) bg bp s R H :=
  h.wrote (lo := 0) (hi := 0) ((Wrote.refl _ _ _ _).drewN q) (by omega)

theorem St.drew {w W : World} {bg bp : Nat} {s : ByteArray} {R : List Int} {H : Int} (h : St w W bg bp s R H) : St w W.drew bg bp s R H :=
  h.wrote (lo := 0) (hi := 0) (Wrote.refl _ _ _ _).drew (by omega)

/-- One count of the rack is written. -/
theorem St.count {w W : World} {bg bp : Nat} {s : ByteArray} {R : List Int} {H : Int} (h : St w W bg bp s R H) (j : Nat) (v : Int) (hj : j ≤ 26) : St w (W.setCell ⟨bg, 243 + j, none⟩ (.int .i64 v)) bg bp s (R.set j v) H := by
  have k := Wrote.set W bg 243 270 (243 + j) (.int .i64 v) (by omega) (by omega)
  have hl := h.len
  refine ⟨h.below.trans (k.below (Nat.le_refl _)), k.still h.all, (k.cell 270 (by omega)).trans h.held, fun i u hu => ?_, (k.far (by have := h.lt; omega)).trans h.str, k.rangeFar h.board (by have := h.lt; omega), by simpa using h.len, h.lt⟩
  have hi : i < 27 := by
    have := (List.getElem?_eq_some_iff.1 hu).1
    simp at this; omega
  rw [List.map_set] at hu
  by_cases e : j = i
  · subst e
    have hold := h.rack j (.int .i64 (R.getD j 0)) (by simp [List.getElem?_eq_getElem (show j < R.length by omega)])
    rw [World.cell?_setCell_same _ _ _ hold]
    rw [List.getElem?_set_self (by simp; omega)] at hu
    exact hu
  · rw [List.getElem?_set_ne e] at hu
    rw [World.cell?_setCell_other _ _ _ _ (fun e' => by simp at e')]
    exact h.rack i u hu

/-- The set is written. -/
theorem St.hold {w W : World} {bg bp : Nat} {s : ByteArray} {R : List Int} {H : Int} (h : St w W bg bp s R H) (v : Int) : St w (W.setCell ⟨bg, 270, none⟩ (.int .u32 v)) bg bp s R v := by
  have k := Wrote.set W bg 270 271 270 (.int .u32 v) (by omega) (by omega)
  exact ⟨h.below.trans (k.below (Nat.le_refl _)), k.still h.all, World.cell?_setCell_same _ _ _ h.held, k.range h.rack (by simp [h.len]), (k.far (by have := h.lt; omega)).trans h.str, k.rangeFar h.board (by have := h.lt; omega), h.len, h.lt⟩

theorem or_held (l : List UInt8) (k : Nat) (hk : k < 27) (hc : 0 < cnt l k) : bits .or .u32 (heldOf l k) (2 ^ k % 4294967296) = ((heldOf l (k + 1) : Nat) : Int) := by
  have h1 := held_lt l k
  have h2 : 2 ^ k < 4294967296 := Nat.lt_of_lt_of_le (Nat.pow_lt_pow_right (by decide) hk) (by decide)
  have e : ((2 : Int) ^ k % 4294967296) = ((2 ^ k : Nat) : Int) := by
    rw [show ((2 : Int) ^ k) = ((2 ^ k : Nat) : Int) by simp]
    omega
  rw [e, u32_or_nat _ _ (by omega) h2, heldOf, if_pos hc]

theorem take_next (s : ByteArray) (k : Nat) (h : k < s.size) : s.data.toList.take (k + 1) = s.data.toList.take k ++ [s[k]] := by
  rw [List.take_succ_eq_append_getElem (by simpa using h)]; rfl

/-- Behind '*g = generator{}'. -/
theorem st_zero {w : World} {bg q : Nat} {s : ByteArray} {Pz Z : Array Value} (hbg : bg < w.heap.size) (hp : Pz[225]? = some (.string s)) (hpb : Pz.toList.take 225 = Bz) (ht : w.there bg 0 5142)
    (hZs : Z.size = 5142) (z270 : Z[270]? = some (.int .u32 0)) (zr : (Z.toList.drop 243).take 27 = List.replicate 27 (.int .i64 0)) :
    St w (((w.alloc (.cells Pz 54)).drewN q).setCells bg 0 Z.toList) bg w.heap.size s (List.replicate 27 0) 0 := by
  have hl : Z.toList.length = 5142 := by simpa using hZs
  have ht1 : ((w.alloc (.cells Pz 54)).drewN q).there bg 0 5142 := World.there_alloc ht _
  have hrs := World.rangeAt_setCells_same ((w.alloc (.cells Pz 54)).drewN q) bg 0 Z.toList (by rw [hl]; exact ht1)
  have hk : Wrote ((w.alloc (.cells Pz 54)).drewN q) (((w.alloc (.cells Pz 54)).drewN q).setCells bg 0 Z.toList) bg 0 5142 := Wrote.sets Z.toList _ bg 0 5142 0 (Nat.le_refl _) (by omega)
  have hbp : ∀ j, ((w.alloc (.cells Pz 54)).drewN q).cell? ⟨w.heap.size, j, none⟩ = Pz[j]? := fun j => World.cell?_alloc_at (w := w) Pz 54 w.heap.size j rfl
  have hbel : Below bg w ((w.alloc (.cells Pz 54)).drewN q) := ((Below.refl bg w).alloc (by omega) _).trans ⟨rfl, rfl, rfl, Nat.le_refl _, fun _ _ => rfl⟩
  refine ⟨hbel.trans (hk.below (Nat.le_refl _)), hk.still ht1, ?_, ?_, (hk.far (by omega)).trans ((hbp 225).trans hp), hk.rangeFar (fun j v hv => ?_) (by omega), List.length_replicate, hbg⟩
  · have := hrs 270 (.int .u32 0) (by simpa using z270)
    simpa using this
  · have := range_sub hrs 243 27
    rw [zr, Nat.zero_add] at this
    simpa using this
  · rw [Nat.zero_add, hbp j]
    rw [← hpb, List.getElem?_take] at hv
    split at hv
    · simpa using hv
    · cases hv

theorem st_board {w : World} {bg q : Nat} {Pz Z : Array Value} (ht : w.there bg 0 5142) (hZs : Z.size = 5142) (zb : (Z.toList.drop 1).take 225 = Bz) :
    (((w.alloc (.cells Pz 54)).drewN q).setCells bg 0 Z.toList).rangeAt bg 1 Bz := by
  have hl : Z.toList.length = 5142 := by simpa using hZs
  have ht1 : ((w.alloc (.cells Pz 54)).drewN q).there bg 0 5142 := World.there_alloc ht _
  have hrs := World.rangeAt_setCells_same ((w.alloc (.cells Pz 54)).drewN q) bg 0 Z.toList (by rw [hl]; exact ht1)
  have := range_sub hrs 1 225
  rwa [zb, Nat.zero_add] at this

section
variable {P : Program} {ops : Array Oper} {S : World → Prop} {o : Oper} {a : Act}
theorem yields_move (hw : Region.wanted o (yielded ops a.tmps) = true) (x : Operand) (ho : o.op = .move x) (v : Value) (hx : a.eval x = v) : YieldsIf P ops S o v a :=
  .inl ⟨hw, fun w _ => by
    unfold execOp
    simp only [ho, hx, Sem.run_pure]⟩
theorem yields_nilCheck (hw : Region.wanted o (yielded ops a.tmps) = true) (x : Operand) (ho : o.op = .nilCheck x) (p : Addr) (hx : a.eval x = .pointer (some p)) : YieldsIf P ops S o (.pointer (some p)) a :=
  .inl ⟨hw, fun w _ => by
    unfold execOp
    simp only [ho, hx, Sem.run_pure]⟩
theorem yields_field (hw : Region.wanted o (yielded ops a.tmps) = true) (t f : Nat) (x : Operand) (ho : o.op = .fieldAddr t x f) (u v : Value) (hx : a.eval x = u) (hr : ∀ w, (Instr.fieldAt t u f).run P w = .ok v w) : YieldsIf P ops S o v a :=
  .inl ⟨hw, fun w _ => by
    unfold execOp
    simp only [ho, hx, Sem.run_bind, Sem.run_pure, hr, Result.andThen_ok]⟩
theorem yields_build0 (hw : Region.wanted o (yielded ops a.tmps) = true) (t : Nat) (ho : o.op = .build t #[]) (v : Value) (hr : ∀ w, (Instr.build t #[]).run P w = .ok v w) : YieldsIf P ops S o v a :=
  .inl ⟨hw, fun w _ => by
    unfold execOp
    simp only [ho, List.map_toArray, List.map_nil, Sem.run_bind, Sem.run_pure, hr, Result.andThen_ok]⟩
theorem yields_binOp (hw : Region.wanted o (yielded ops a.tmps) = true) (op : BinOp) (t t2 : Nat) (x y : Operand) (ho : o.op = .binOp op t x y t2) (u1 u2 v : Value) (hx : a.eval x = u1) (hy : a.eval y = u2)
    (hg : ∀ w, (eqGuard op t x y u1 u2).run P w = .ok () w) (hr : ∀ w, (binOp op t u1 u2).run P w = .ok v w) : YieldsIf P ops S o v a :=
  .inl ⟨hw, fun w _ => by
    unfold execOp
    simp only [ho, hx, hy, Sem.run_bind, Sem.run_pure, hg, hr, Result.andThen_ok]⟩

/-- Taken first; the slot that it writes is named. -/
theorem take_first {Q : Exit → Act → World → Prop} {md : Region.Mode} {i : Nat} {v : Value} {d : Option Tmp} {fuel : Nat} {listed : Array Bool} {w : World} (hi : ops[i]? = some o) (hd : o.dst = d)
    (hs : Region.noSelect ops = true) (hf : Region.free md ops listed i = true) (hr : (Region.ready md ops listed).contains i = true)
    (hQ : ∀ c a w, Q (.panic c) (a.put d v) w → Q (.panic c) a w) (hS : S w) (hy : YieldsIf P ops S o v a)
    (h : wpAnyH P md ops Q S fuel (listed.setIfInBounds i true) (a.put d v) w) : wpAnyH P md ops Q S (fuel + 1) listed a w := by
  subst hd
  exact wpAnyH_take hi hs hf hr hQ hy hS h

/-- A store that comes up. -/
theorem ready_store {Q : Exit → Act → World → Prop} {md : Region.Mode} {i : Nat} {fuel : Nat} {listed : Array Bool} {w w' : World} {rs : List Nat} (hi : ops[i]? = some o) (hd : o.dst = Option.none) (hw : Region.wanted o (yielded ops a.tmps) = true)
    (hr : (execOp a.eval o).run P w = .ok .skip w') (hS : S w') (h : wpAnyH P md ops Q S fuel (listed.setIfInBounds i true) a w')
    (hs : AllReadyH P md ops Q S fuel listed a w rs) : AllReadyH P md ops Q S fuel listed a w (i :: rs) := by
  refine AllReadyH.cons hi (fun K hK => ?_) hs
  rw [if_pos hw]
  unfold Oper.wp
  rw [hr]
  show K (a.put o.dst undef) w'
  rw [hd]
  exact hK.out a w' hS fun _ => h

theorem exec_store {w w' : World} (t : Nat) (x y : Operand) (ho : o.op = .store t x y) (u v : Value) (hx : a.eval x = u) (hy : a.eval y = v) (hr : (Instr.storeAt t u v).run P w = .ok () w') : (execOp a.eval o).run P w = .ok .skip w' := by
  unfold execOp
  simp only [ho, hx, hy, Sem.run_bind, Sem.run_pure, hr, Result.andThen_ok]
end

theorem field54_0 (b : Nat) (w : World) : (Instr.fieldAt 54 (.pointer (some ⟨b, 0, none⟩)) 0).run Yba.prog w = .ok (.pointer (some ⟨b, 0, none⟩)) w := by kernel_rfl
theorem field48_1 (b : Nat) (w : World) : (Instr.fieldAt 48 (.pointer (some ⟨b, 0, none⟩)) 1).run Yba.prog w = .ok (.pointer (some ⟨b, 1, none⟩)) w := by kernel_rfl
theorem field48_4 (b : Nat) (w : World) : (Instr.fieldAt 48 (.pointer (some ⟨b, 0, none⟩)) 4).run Yba.prog w = .ok (.pointer (some ⟨b, 242, none⟩)) w := by kernel_rfl
theorem store_bool (b o : Nat) (x : Bool) (w : World) (u : Value) (hc : w.cell? ⟨b, o, none⟩ = some u) (hf : w.frozen? ⟨b, o, none⟩ = false) :
    (Instr.storeAt 4 (.pointer (some ⟨b, o, none⟩)) (.bool x)).run Yba.prog w = .ok () (w.setCell ⟨b, o, none⟩ (.bool x)) := by
  go_simp

set_option maxHeartbeats 1600000 in
set_option maxRecDepth 100000 in
theorem reset_any (bg : Nat) (s : ByteArray) (Pz : Array Value) (w : World) (hbg : bg < w.heap.size) (hs : s.size ≤ 1048576) (hp : Pz[225]? = some (.string s)) (hpb : Pz.toList.take 225 = Bz)
    (ht : w.there bg 0 5142) (h0 : w.cell? ⟨bg, 0, none⟩ = some (.pointer none)) (h271 : w.cell? ⟨bg, 271, none⟩ = some (.slice none 0 0)) (h272 : w.cell? ⟨bg, 272, none⟩ = some (.slice none 0 0)) (h4924 : w.cell? ⟨bg, 4924, none⟩ = some (.slice none 0 0)) :
    Calls Yba.prog 8 #[.pointer (some ⟨bg, 0, none⟩), .agg Pz] w fun e w' => e = .returned (.tuple #[]) ∧ w'.cell? ⟨bg, 270, none⟩ = some (.int .u32 (heldOf s.data.toList 27)) ∧ Below bg w w' := by
  obtain ⟨Z, hZs, hZ1, hZb, _, z0, z271, z272, z4924, z270, zr, zb⟩ := gen_zero
  go_enter Yba.func8, Yba.ntmps8
  go_wp2
  go_quiet (fail)
  go_upto_region 3 with (first | (refine wpList_build0 rfl 48 rfl (.agg Z) (hZb _) ?_) | (refine wpList_store_mid rfl 48 (.tmp 33) (.tmp 32) rfl bg 0 Z rfl rfl ?t1 ?t2 ?t3 ?_))
  case t1 => rw [hZs]; exact World.there_alloc ht _
  case t2 => rw [hZs]; exact size48
  case t3 => exact Array.all_eq_true_iff_forall_mem.2 (fun v hv => hZ1 v (by simpa using hv))
  have S2 := st_zero (q := nq) hbg hp hpb ht hZs z270 zr
  have B2 := st_board (q := nq) (Pz := Pz) ht hZs zb
  obtain ⟨bp, hbp⟩ : ∃ bp, bp = w.heap.size := ⟨_, rfl⟩
  rw [← hbp] at S2 ⊢
  obtain ⟨W2, hW2⟩ : ∃ W2, W2 = ((w.alloc (.cells Pz 54)).drewN nq).setCells bg 0 Z.toList := ⟨_, rfl⟩
  rw [← hW2] at S2 B2 ⊢
  clear hW2 hZ1 hZb z0 z271 z272 z4924 z270 zr zb h0 h271 h272 h4924 ht hp hpb hbp
  obtain ⟨u0, c0⟩ := Option.isSome_iff_exists.1 (S2.all 0 (by omega)).1
  obtain ⟨u1, c1⟩ := Option.isSome_iff_exists.1 (S2.all 271 (by omega)).1
  obtain ⟨u2, c2⟩ := Option.isSome_iff_exists.1 (S2.all 272 (by omega)).1
  obtain ⟨u3, c3⟩ := Option.isSome_iff_exists.1 (S2.all 4924 (by omega)).1
  have f0 := (S2.all 0 (by omega)).2
  have f1 := (S2.all 271 (by omega)).2
  have f2 := (S2.all 272 (by omega)).2
  have f3 := (S2.all 4924 (by omega)).2
  simp only [Nat.zero_add] at c0 c1 c2 c3 f0 f1 f2 f3
  go_upto_region 4 with fail
  have S3 := (((S2.set 0 (.pointer none) (by omega)).set 271 (.slice none 0 0) (by omega)).set 272 (.slice none 0 0) (by omega)).set 4924 (.slice none 0 0) (by omega)
  have B3 := (Wrote.set _ bg 4924 4925 4924 (.slice none 0 0) (by omega) (by omega)).range ((Wrote.set _ bg 272 273 272 (.slice none 0 0) (by omega) (by omega)).range ((Wrote.set _ bg 271 272 271 (.slice none 0 0) (by omega) (by omega)).range ((Wrote.set W2 bg 0 1 0 (.pointer none) (by omega) (by omega)).range B2 (by rw [bz_len]; omega)) (by rw [bz_len]; omega)) (by rw [bz_len]; omega)) (by rw [bz_len]; omega)
  obtain ⟨W3, hW3⟩ : ∃ W3, W3 = (((W2.setCell ⟨bg, 0, none⟩ (.pointer none)).setCell ⟨bg, 271, none⟩ (.slice none 0 0)).setCell ⟨bg, 272, none⟩ (.slice none 0 0)).setCell ⟨bg, 4924, none⟩ (.slice none 0 0) := ⟨_, rfl⟩
  rw [← hW3] at S3 B3 ⊢
  clear hW3 S2 c0 c1 c2 c3 f0 f1 f2 f3
  have hbne : bp ≠ bg := by have := S3.lt; omega
  have h4 : Wrote W3 W3.drew bg 0 243 ∧ W3.drew.rangeAt bg 1 Bz := ⟨(Wrote.refl _ _ _ _).drew, by simpa using B3⟩
  refine wp_region_noPanic ?_
  refine wp_region_held_drew (S := fun w' => Wrote W3 w' bg 0 243 ∧ w'.rangeAt bg 1 Bz) (by kernel_rfl) h4 (fun hH => ?_)
  refine take_first (i := 0) (d := some 51) rfl rfl (by kernel_rfl) (by kernel_rfl) (by kernel_rfl) (fun _ _ _ h => h) hH (yields_move (by rfl) (.tmp 0) rfl (.pointer (some ⟨bg, 0, none⟩)) rfl) ?_
  simp only [Act.put, List.setIfInBounds_toArray, List.set_cons_zero, List.set_cons_succ]
  refine take_first (i := 1) (d := some 52) rfl rfl (by kernel_rfl) (by kernel_rfl) (by kernel_rfl) (fun _ _ _ h => h) hH (yields_move (by rfl) (.tmp 0) rfl (.pointer (some ⟨bg, 0, none⟩)) rfl) ?_
  simp only [Act.put, List.setIfInBounds_toArray, List.set_cons_zero, List.set_cons_succ]
  refine take_first (i := 2) (d := some 53) rfl rfl (by kernel_rfl) (by kernel_rfl) (by kernel_rfl) (fun _ _ _ h => h) hH (yields_field (by rfl) 54 0 (.tmp 3) rfl (.pointer (some ⟨bp, 0, none⟩)) (.pointer (some ⟨bp, 0, none⟩)) rfl (field54_0 bp)) ?_
  simp only [Act.put, List.setIfInBounds_toArray, List.set_cons_zero, List.set_cons_succ]
  refine take_first (i := 3) (d := some 54) rfl rfl (by kernel_rfl) (by kernel_rfl) (by kernel_rfl) (fun _ _ _ h => h) hH (yieldsIf_load_mid (by rfl) 27 (.tmp 53) rfl bp 0 rfl Bz _ (fun w hw => hw.1.rangeFar S3.board hbne) Yba.underlying27 rfl (by rw [bz_len]; exact size27)) ?_
  simp only [Act.put, List.setIfInBounds_toArray, List.set_cons_zero, List.set_cons_succ]
  refine take_first (i := 4) (d := some 55) rfl rfl (by kernel_rfl) (by kernel_rfl) (by kernel_rfl) (fun _ _ _ h => h) hH (yields_field (by rfl) 54 0 (.tmp 3) rfl (.pointer (some ⟨bp, 0, none⟩)) (.pointer (some ⟨bp, 0, none⟩)) rfl (field54_0 bp)) ?_
  simp only [Act.put, List.setIfInBounds_toArray, List.set_cons_zero, List.set_cons_succ]
  refine take_first (i := 5) (d := some 56) rfl rfl (by kernel_rfl) (by kernel_rfl) (by kernel_rfl) (fun _ _ _ h => h) hH (yieldsIf_load_mid (by rfl) 27 (.tmp 55) rfl bp 0 rfl Bz _ (fun w hw => hw.1.rangeFar S3.board hbne) Yba.underlying27 rfl (by rw [bz_len]; exact size27)) ?_
  simp only [Act.put, List.setIfInBounds_toArray, List.set_cons_zero, List.set_cons_succ]
  refine take_first (i := 6) (d := some 57) rfl rfl (by kernel_rfl) (by kernel_rfl) (by kernel_rfl) (fun _ _ _ h => h) hH (yields_build0 (by rfl) 27 rfl (.agg Bz.toArray) build27) ?_
  simp only [Act.put, List.setIfInBounds_toArray, List.set_cons_zero, List.set_cons_succ]
  refine take_first (i := 7) (d := some 58) rfl rfl (by kernel_rfl) (by kernel_rfl) (by kernel_rfl) (fun _ _ _ h => h) hH (yields_binOp (by rfl) .eql 27 27 (.tmp 56) (.tmp 57) rfl (.agg Bz.toArray) (.agg Bz.toArray) (.bool true) rfl rfl guard27 eql27) ?_
  simp only [Act.put, List.setIfInBounds_toArray, List.set_cons_zero, List.set_cons_succ]
  refine take_first (i := 8) (d := some 59) rfl rfl (by kernel_rfl) (by kernel_rfl) (by kernel_rfl) (fun _ _ _ h => h) hH (yields_nilCheck (by rfl) (.tmp 51) rfl ⟨bg, 0, none⟩ rfl) ?_
  simp only [Act.put, List.setIfInBounds_toArray, List.set_cons_zero, List.set_cons_succ]
  refine take_first (i := 9) (d := some 60) rfl rfl (by kernel_rfl) (by kernel_rfl) (by kernel_rfl) (fun _ _ _ h => h) hH (yields_field (by rfl) 48 1 (.tmp 59) rfl (.pointer (some ⟨bg, 0, none⟩)) (.pointer (some ⟨bg, 1, none⟩)) rfl (field48_1 bg)) ?_
  simp only [Act.put, List.setIfInBounds_toArray, List.set_cons_zero, List.set_cons_succ]
  have ht4 : W3.drew.there bg 1 Bz.toArray.size := by
    have : W3.there bg 1 225 := there_sub S3.all (by omega) (by omega)
    simpa [bz_len] using this
  have hI : Wrote W3 (W3.drew.setCells bg 1 Bz) bg 0 243 ∧ (W3.drew.setCells bg 1 Bz).rangeAt bg 1 Bz :=
    ⟨(Wrote.refl _ _ _ _).drew.trans (Wrote.sets Bz _ bg 0 243 1 (by omega) (by rw [bz_len]; omega)), World.rangeAt_setCells_same _ _ _ _ (by simpa using ht4)⟩
  refine wpAnyH_ready (rs := [10]) (by kernel_rfl) (by simp) ?_
  refine ready_store (w' := W3.drew.setCells bg 1 Bz) rfl rfl (by rfl) (exec_store 27 (.tmp 60) (.tmp 54) rfl (.pointer (some ⟨bg, 1, none⟩)) (.agg Bz.toArray) rfl rfl (run_storeAt_mid _ bg 1 27 Bz.toArray ht4 (by simpa [bz_len] using size27) (all_oneCell_toArray bz_one))) hI ?_ AllReadyH.nil
  obtain ⟨W4, hW4⟩ : ∃ W4, W4 = W3.drew.setCells bg 1 Bz := ⟨_, rfl⟩
  rw [← hW4] at hI ⊢
  clear hW4 hH ht4
  refine take_first (i := 11) (d := some 61) rfl rfl (by kernel_rfl) (by kernel_rfl) (by kernel_rfl) (fun _ _ _ h => h) hI (yields_nilCheck (by rfl) (.tmp 52) rfl ⟨bg, 0, none⟩ rfl) ?_
  simp only [Act.put, List.setIfInBounds_toArray, List.set_cons_zero, List.set_cons_succ]
  refine take_first (i := 12) (d := some 62) rfl rfl (by kernel_rfl) (by kernel_rfl) (by kernel_rfl) (fun _ _ _ h => h) hI (yields_field (by rfl) 48 4 (.tmp 61) rfl (.pointer (some ⟨bg, 0, none⟩)) (.pointer (some ⟨bg, 242, none⟩)) rfl (field48_4 bg)) ?_
  simp only [Act.put, List.setIfInBounds_toArray, List.set_cons_zero, List.set_cons_succ]
  have S4 := S3.wrote hI.1 (by omega)
  obtain ⟨u4, c4⟩ := Option.isSome_iff_exists.1 (S4.all 242 (by omega)).1
  have f4 := (S4.all 242 (by omega)).2
  simp only [Nat.zero_add] at c4 f4
  have hJ : Wrote W3 (W4.setCell ⟨bg, 242, none⟩ (.bool true)) bg 0 243 ∧ (W4.setCell ⟨bg, 242, none⟩ (.bool true)).rangeAt bg 1 Bz :=
    ⟨hI.1.trans (Wrote.set W4 bg 0 243 242 _ (by omega) (by omega)), (Wrote.set W4 bg 242 243 242 (.bool true) (by omega) (by omega)).range hI.2 (by rw [bz_len]; omega)⟩
  refine wpAnyH_ready (rs := [13]) (by kernel_rfl) (by simp) ?_
  refine ready_store (w' := W4.setCell ⟨bg, 242, none⟩ (.bool true)) rfl rfl (by rfl) (exec_store 4 (.tmp 62) (.tmp 58) rfl (.pointer (some ⟨bg, 242, none⟩)) (.bool true) rfl rfl (store_bool bg 242 true W4 u4 c4 f4)) hJ ?_ AllReadyH.nil
  refine wpAnyH_done (by kernel_rfl) ?_ _
  refine NoPanic.normal ?_
  have S5 := S3.wrote hJ.1 (by omega)
  have B5 := hJ.2
  obtain ⟨W5, hW5⟩ : ∃ W5, W5 = W4.setCell ⟨bg, 242, none⟩ (.bool true) := ⟨_, rfl⟩
  rw [← hW5] at S5 B5 ⊢
  clear hW5 hJ hI S3 S4 B3 c4 f4
  go_wp2_with (go_at_call 9; refine (occ_any bg W5 B5 (there_sub S5.all (by omega) (by omega))).mono ?_; rintro e W6 ⟨rfl, hW6⟩)
  have S6 := S5.wrote hW6 (by omega)
  clear S5 B5 hW6
  go_loopw [8] (fun si wr => ∃ k : Nat, k ≤ s.size ∧ si = .int .i64 k ∧ St w wr bg bp s (rackOf (s.data.toList.take k)) 0) (fun si _ => s.size - (intOf si).toNat)
  case atStart => exact ⟨0, Nat.zero_le _, rfl, by rw [List.take_zero, rack_nil]; exact S6⟩
  case round =>
    obtain ⟨k, hk, rfl, hSt⟩ := hrel
    have hstr := hSt.str
    by_cases hlt : k < s.size
    · have hj := slot_le s[k].toNat
      have hj0 : (0 : Int) ≤ (slotOf s[k].toNat : Int) := by omega
      have hj1 : (slotOf s[k].toNat : Int) < 27 := by omega
      have hcell : wr.cell? ⟨bg, 243 + slotOf s[k].toNat, none⟩ = some (.int .i64 (cnt (s.data.toList.take k) (slotOf s[k].toNat))) := hSt.rack _ _ (by rw [List.getElem?_map, rack_get _ _ (by omega)]; rfl)
      have hfz : wr.frozen? ⟨bg, 243 + slotOf s[k].toNat, none⟩ = false := by have := (hSt.all (243 + slotOf s[k].toNat) (by omega)).2; simpa using this
      have hcl := cnt_le (s.data.toList.take k) (slotOf s[k].toNat)
      have hcl2 : (cnt (s.data.toList.take k) (slotOf s[k].toNat) : Int) ≤ 1048576 := by
        have : (s.data.toList.take k).length ≤ k := List.length_take_le _ _
        omega
      go_wp2
      go_region_with (go_at_call 10; refine (slot_any _ _).mono ?_; rintro e w' ⟨rfl, rfl⟩)
      go_wp2
      go_roundw
      case rel => exact ⟨k + 1, by omega, by go_num, by rw [take_next s k hlt, rack_snoc]; exact (hSt.count _ _ hj).drew⟩
      case measure => simp [intOf]; omega
    · have hall : s.data.toList.take k = s.data.toList := List.take_of_length_le (by simp; omega)
      rw [hall] at hSt
      obtain ⟨l, hl⟩ : ∃ l, l = s.data.toList := ⟨_, rfl⟩
      have HL : Hid (l = s.data.toList) := hl
      rw [← hl] at hSt
      have hrack := hSt.rack
      have hll : l.length ≤ 1048576 := by rw [hl]; simpa using hs
      clear hall hl
      go_wp2_with (refine wpList_load_mid rfl 29 (.tmp 88) rfl bg 243 rfl ((rackOf l).map (Value.int .i64)) _ hrack Yba.underlying29 rfl (by rw [List.length_map, rack_len]; exact size29) ?_)
      obtain ⟨wo, hwo⟩ : ∃ wo : World, wo = wr := ⟨_, rfl⟩
      obtain ⟨V, hV⟩ : ∃ V, V = ((rackOf l).map (Value.int .i64)).toArray := ⟨_, rfl⟩
      rw [← hV]
      have HV : Hid (V = ((rackOf l).map (Value.int .i64)).toArray) := hV
      clear hV
      go_loopw [90] (fun si wq => ∃ k : Nat, k ≤ 27 ∧ si = .int .i64 k ∧ St w wq bg bp s (rackOf l) (heldOf l k)) (fun si _ => 27 - (intOf si).toNat)
      case atStart => exact ⟨0, Nat.zero_le _, rfl, hSt⟩
      case round =>
        obtain ⟨k, hk, rfl, hSt2⟩ := hrel
        by_cases hkl : k < 27
        · have hix : ∀ w, (Instr.index 29 (.agg V) (.int .i64 k)).run Yba.prog w = .ok (.int .i64 (cnt l k)) w := fun w => by
            refine run_index_agg w 29 3 27 Yba.t3 V k _ Yba.underlying29 (by kernel_rfl) (by kernel_rfl) (by kernel_rfl) hkl ?_
            rw [HV.out, List.getElem?_toArray, List.getElem?_map, rack_get l k hkl]; rfl
          have hheld := hSt2.held
          have hfz : wr.frozen? ⟨bg, 270, none⟩ = false := by have := (hSt2.all 270 (by omega)).2; simpa using this
          by_cases hc : 0 < cnt l k
          · have HO := or_held l k hkl hc
            have HO' : Hid (bits .or .u32 (heldOf l k) (2 ^ k % 4294967296) = ((heldOf l (k + 1) : Nat) : Int)) := HO
            clear HO
            go_wp2
            go_region
            go_wp2
            go_roundw
            case rel => exact ⟨k + 1, by omega, by go_num, by rw [HO'.out]; exact (hSt2.hold _).drew⟩
            case measure => simp [intOf]; omega
          · have hz : heldOf l (k + 1) = heldOf l k := by rw [heldOf, if_neg hc]
            have HZ : Hid (heldOf l (k + 1) = heldOf l k) := hz
            clear hz
            go_wp2
            go_roundw
            case rel => exact ⟨k + 1, by omega, by go_num, by rw [HZ.out]; exact hSt2⟩
            case measure => simp [intOf]; omega
        · go_wp2
          go_end0
          have e : k = 27 := by omega
          subst e
          exact ⟨rfl, by rw [← HL.out]; exact hSt2.held, hSt2.below⟩
end Go.Proofs.Ybulkdvqu
