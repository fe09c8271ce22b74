/-
  Next (4) behind the first octet: the header, then the rest.
-/
import Derived.Test.YbulkdvskFmtNext
import Derived.Laws.BitsAllLaws
namespace Go.Proofs.YbulkdvskFmt
open Go.RowKit

/-- n octets, the numbers L, from offset o of block b on. -/
def Oct (w : World) (b o n : Nat) (L : List Nat) : Prop :=
  L.length = n ∧ b < w.heap.size ∧ (∀ t, t < n → w.cell? ⟨b, o + t, none⟩ = some (.int .u8 ((L.getD t 0 : Nat) : Int))) ∧ ∀ t, t < n → L.getD t 0 < 256

theorem Oct.below {w w' : World} {b o n : Nat} {L : List Nat} (h : Oct w b o n L) (hb : Below w.heap.size w w') : Oct w' b o n L :=
  ⟨h.1, Nat.lt_of_lt_of_le h.2.1 hb.size, fun t ht => (hb.cell (p := ⟨b, o + t, none⟩) h.2.1).trans (h.2.2.1 t ht), h.2.2.2⟩

/-- What Next leaves where there is an element r. -/
def Found (w : World) (b o n : Nat) (r : Res) (e : Ending) (w' : World) : Prop :=
  ∃ (a1 a2 : Option Addr) (a3 : Addr) (c1 c2 c3 : Nat), e = .returned (.tuple #[.agg #[.int .u8 r.cls, .int .u32 r.num, .bool r.cons, .slice a1 (r.ce - r.cs) c1, .slice a2 r.en c2], .slice (some a3) (n - r.en) c3, .nilIface]) ∧
    (0 < r.ce - r.cs → a1 = some ⟨b, o + r.cs, none⟩) ∧ a2 = some ⟨b, o, none⟩ ∧ (0 < n - r.en → a3 = ⟨b, o + r.en, none⟩) ∧ Below w.heap.size w w'

/-- What Next leaves. -/
def After (w : World) (b o n : Nat) (L : List Nat) (e : Ending) (w' : World) : Prop := (P false L = none ∧ Failed w e w') ∨ ∃ r, P false L = some r ∧ Found w b o n r e w'

/-- What endOfContents leaves, from offset q on. -/
def Eoc (w : World) (L : List Nat) (q : Nat) (e : Ending) (w' : World) : Prop :=
  (P true (L.drop q) = none ∧ ∃ v, e = .returned (.tuple #[.int .i64 0, v]) ∧ IsErr w' v ∧ Below w.heap.size w w') ∨
  ∃ r, P true (L.drop q) = some r ∧ e = .returned (.tuple #[.int .i64 ((q + r.en : Nat) : Int), .nilIface]) ∧ Below w.heap.size w w'

/-- THE END OF EVERY WAY THAT FINDS AN ELEMENT. -/
theorem good_end {Q : Ending → World → Prop} {w W : World} {tmps : Array Value} {E : Array Value} {rest : Value} (hE : E.size = 5) (hr : W.heap[w.heap.size]? = some (.cells E 28 (0, 0)))
    (h2 : tmps.getD 2 undef = .pointer (some ⟨w.heap.size, 0, none⟩)) (h3 : tmps.getD 3 undef = rest) (h4 : tmps.getD 4 undef = .nilIface) (hQ : Q (.returned (.tuple #[.agg E, rest, .nilIface])) W) :
    bodyPost Ybaf.prog Ybaf.f4 Q .ret { tmps := tmps, defers := [] } W := by
  refine bodyPost_ret (v := .tuple #[.agg E, rest, .nilIface]) ?_ rfl hQ
  have hra : W.rangeAt w.heap.size 0 E.toList := fun j v hv => by
    rw [Nat.zero_add, cell_of_row W _ j E 28 (0, 0) hr]
    simpa using hv
  rw [results4 tmps W w.heap.size E.toList (by simpa using hE) h2 hra, h3, h4]

theorem good_range {Q : Ending → World → Prop} {w W : World} {tmps : Array Value} {E : List Value} {rest : Value} (hE : E.length = 5) (hra : W.rangeAt w.heap.size 0 E)
    (h2 : tmps.getD 2 undef = .pointer (some ⟨w.heap.size, 0, none⟩)) (h3 : tmps.getD 3 undef = rest) (h4 : tmps.getD 4 undef = .nilIface) (hQ : Q (.returned (.tuple #[.agg E.toArray, rest, .nilIface])) W) :
    bodyPost Ybaf.prog Ybaf.f4 Q .ret { tmps := tmps, defers := [] } W := by
  refine bodyPost_ret (v := .tuple #[.agg E.toArray, rest, .nilIface]) ?_ rfl hQ
  rw [results4 tmps W w.heap.size E hE h2 hra, h3, h4]

theorem store_two {w1 : World} {r : Nat} (A B v0 v1 v2 v3 v4 : Value) (h : w1.there r 0 5) : (((((((w1.setCell ⟨r + 1, 3, none⟩ A).setCell ⟨r + 1, 4, none⟩ B).setCell ⟨r, 0, none⟩ v0).setCell ⟨r, 1, none⟩ v1).setCell ⟨r, 2, none⟩ v2).setCell ⟨r, 3, none⟩ v3).setCell ⟨r, 4, none⟩ v4).rangeAt r 0 [v0, v1, v2, v3, v4] :=
  World.rangeAt_setCells_same (w1.setCells (r + 1) 3 [A, B]) r 0 [v0, v1, v2, v3, v4] (World.there_setCells h _ _ _)
theorem store_below {w1 : World} {r : Nat} (A B v0 v1 v2 v3 v4 : Value) : Below r w1 (((((((w1.setCell ⟨r + 1, 3, none⟩ A).setCell ⟨r + 1, 4, none⟩ B).setCell ⟨r, 0, none⟩ v0).setCell ⟨r, 1, none⟩ v1).setCell ⟨r, 2, none⟩ v2).setCell ⟨r, 3, none⟩ v3).setCell ⟨r, 4, none⟩ v4) :=
  (sets_below [A, B] w1 r (r + 1) 3 (by omega)).trans (sets_below [v0, v1, v2, v3, v4] _ r r 0 (Nat.le_refl _))

/-- The slices that Next hands back. -/
theorem found_of {w W : World} {b o n cls num q v en c1 c2 c3 : Nat} {cons : Bool} {a1 : Option Addr} {a3 : Option Addr} (h1 : 0 < v → a1 = some ⟨b, o + q, none⟩) (h3 : ∃ a, a3 = some a ∧ (0 < n - en → a = ⟨b, o + en, none⟩)) (hB : Below w.heap.size w W) :
    Found w b o n ⟨cls, num, cons, q, q + v, en⟩ (.returned (.tuple #[.agg #[.int .u8 cls, .int .u32 num, .bool cons, .slice a1 v c1, .slice (some ⟨b, o, none⟩) en c2], .slice a3 (n - en) c3, .nilIface])) W := by
  obtain ⟨a, rfl, ha⟩ := h3
  have e : q + v - q = v := by omega
  exact ⟨a1, some ⟨b, o, none⟩, a, c1, c2, c3, by simp only [e], by simpa only [e] using h1, rfl, ha, hB⟩

/-! ### Bits -/
theorem and_pow (n i : Nat) : n &&& 2 ^ i = if n.testBit i then 2 ^ i else 0 := by
  apply Nat.eq_of_testBit_eq
  intro j
  rw [Nat.testBit_and, Nat.testBit_two_pow]
  by_cases e : i = j
  · subst e
    by_cases h : n.testBit i = true
    · simp [h]
    · simp at h; simp [h]
  · by_cases h : n.testBit i = true
    · simp [h, e]
    · simp at h; simp [h, e]
theorem bit5 (x : Nat) (h : x < 256) : (bits .and .u8 (x : Int) 32 != 0) = decide (x / 32 % 2 = 1) := by
  have e : bits .and .u8 (x : Int) 32 = ((x &&& 32 : Nat) : Int) := u8_and_nat x 32 h (by decide)
  have e4 : x &&& 32 = if x.testBit 5 then 32 else 0 := and_pow x 5
  rw [e, e4, Nat.testBit_eq_decide_div_mod_eq]
  by_cases c : x / 2 ^ 5 % 2 = 1
  · simp [c]
  · simp [c]
theorem bit7 (x : Nat) (h : x < 256) : (bits .and .u8 (x : Int) 128 == 0) = decide (x < 128) := by
  have e : bits .and .u8 (x : Int) 128 = ((x &&& 128 : Nat) : Int) := u8_and_nat x 128 h (by decide)
  have e4 : x &&& 128 = if x.testBit 7 then 128 else 0 := and_pow x 7
  rw [e, e4, Nat.testBit_eq_decide_div_mod_eq]
  by_cases c : x / 2 ^ 7 % 2 = 1
  · have c' : ¬ x < 128 := by have : x / 128 % 2 = 1 := c; omega
    simp [c, c']
  · have c' : x < 128 := by have : ¬ x / 128 % 2 = 1 := c; omega
    simp [c, c']
theorem low5 (x : Nat) (h : x < 256) : bits .and .u8 (x : Int) 31 = ((x % 32 : Nat) : Int) := by
  have e : bits .and .u8 (x : Int) 31 = ((x &&& 31 : Nat) : Int) := u8_and_nat x 31 h (by decide)
  rw [e, show x &&& 31 = x % 32 from Nat.and_two_pow_sub_one_eq_mod x 5]
theorem low7 (x : Nat) (h : x < 256) : bits .and .u8 (x : Int) 127 = ((x % 128 : Nat) : Int) := by
  have e : bits .and .u8 (x : Int) 127 = ((x &&& 127 : Nat) : Int) := u8_and_nat x 127 h (by decide)
  rw [e, show x &&& 127 = x % 128 from Nat.and_two_pow_sub_one_eq_mod x 7]
theorem join7 (v d : Nat) (hv : v < 33554432) (hd : d < 128) : bits .or .u32 ((v : Int) * 128) (d : Int) = (v : Int) * 128 + (d : Int) := by
  rw [show ((v : Int) * 128) = ((v * 128 : Nat) : Int) by simp, u32_or_nat _ _ (by omega) (by omega), nat_join 7 (v * 128) d (by omega) (by omega)]
  omega

theorem below_drew2 (w : World) (A B : Obj) : Below w.heap.size w ((w.alloc A).alloc B).drew := (((Below.refl _ _).alloc (Nat.le_refl _) A).alloc (by simp) B).drew

theorem join8 (v d : Nat) (hv : v < 72057594037927936) (hd : d < 256) : bits .or .u64 ((v : Int) * 256) (d : Int) = (v : Int) * 256 + (d : Int) := by
  rw [show ((v : Int) * 256) = ((v * 256 : Nat) : Int) by simp, u64_or_nat _ _ (by omega) (by omega), nat_join 8 (v * 256) d (by omega) (by omega)]
  omega

set_option maxHeartbeats 3000000 in
set_option maxRecDepth 100000 in
theorem next_main (b o n c : Nat) (L : List Nat) (w : World) (hO : Oct w b o n L) (hn : 1 ≤ n) (hc : n ≤ c) (hm : n ≤ 1048576)
    (hE : Hid (∀ (q : Nat) (w1 : World), 2 ≤ q → q ≤ n → Oct w1 b o n L → Calls Ybaf.prog 9 #[.slice (some ⟨b, o, none⟩) n c, .int .i64 q] w1 (Eoc w1 L q))) : Calls Ybaf.prog 4 #[.slice (some ⟨b, o, none⟩) n c] w (After w b o n L) := by
  obtain ⟨W, hW⟩ : ∃ W, W = w.alloc (.cells Z5 28) := ⟨_, rfl⟩
  have hr : W.heap[w.heap.size]? = some (.cells Z5 28 (0, 0)) := by rw [hW]; exact heap_alloc_new w _
  have hB : Below w.heap.size w W := by rw [hW]; exact (Below.refl _ _).alloc (Nat.le_refl _) _
  subst hW
  have c0 := hO.2.2.1 0 (by omega)
  have hblt := hO.2.1
  obtain ⟨x, hx⟩ : ∃ x, x = L.getD 0 0 := ⟨_, rfl⟩
  have hx256 : x < 256 := by rw [hx]; exact hO.2.2.2 0 (by omega)
  rw [← hx, Nat.add_zero] at c0
  obtain ⟨m, hm5⟩ : ∃ m, m = x % 32 := ⟨_, rfl⟩
  obtain ⟨cons, hcons⟩ : ∃ cons, cons = decide (x / 32 % 2 = 1) := ⟨_, rfl⟩
  obtain ⟨cls, hcls⟩ : ∃ cls, cls = x / 64 := ⟨_, rfl⟩
  have hm32 : m < 32 := by omega
  have e31 : bits .and .u8 (x : Int) 31 = (m : Int) := by rw [hm5]; exact low5 x hx256
  have e32 : (bits .and .u8 (x : Int) 32 != 0) = cons := by rw [hcons]; exact bit5 x hx256
  have e64 : (x : Int) / 64 = (cls : Int) := by rw [hcls]; omega
  have HX : Hid (x = L.getD 0 0 ∧ m = x % 32 ∧ cons = decide (x / 32 % 2 = 1) ∧ cls = x / 64) := ⟨hx, hm5, hcons, hcls⟩
  clear hx hm5 hcons hcls
  have hl0 : (0 : Int) < (n : Int) := by omega
  have hn0 : ((n : Int) == 0) = false := by simp; omega
  go_enter Ybaf.func4, Ybaf.ntmps4
  go_upto_if 37 with fail
  go_cut [7] (fun sat wc => ∃ p num : Nat, sat = .int .i64 p ∧ 1 ≤ p ∧ p ≤ n ∧ num < 4294967296 ∧ Hid (hdr L = some (cls, num, cons, p)) ∧
    wc = (w.alloc (.cells #[.int .u8 0, .int .u32 0, .bool false, .slice none 0 0, .slice none 0 0] 28)).alloc (.cells #[.int .u8 cls, .int .u32 num, .bool cons, .slice none 0 0, .slice none 0 0] 28))
  case first =>
    have hA := fun (E : Obj) => heap_alloc2_old w (.cells Z5 28) E
    have hA' := fun (E : Obj) => ((Below.refl w.heap.size w).alloc (Nat.le_refl _) (.cells Z5 28)).alloc (by simp) E
    by_cases h31 : m = 31
    · have h31' : ((m : Int) != 31) = false := by simp; omega
      go_wp2
      go_loopw [7] (fun sat wr => ∃ p v : Nat, sat = .int .i64 p ∧ 1 ≤ p ∧ p ≤ n ∧ v < 4294967296 ∧ Hid (tagL (L.drop 1) 0 = (tagL (L.drop p) v).map fun y => (y.1, y.2 + (p - 1))) ∧
          wr = (w.alloc (.cells #[.int .u8 0, .int .u32 0, .bool false, .slice none 0 0, .slice none 0 0] 28)).alloc (.cells #[.int .u8 cls, .int .u32 v, .bool cons, .slice none 0 0, .slice none 0 0] 28)) (fun sat _ => n - (intOf sat).toNat)
      case atStart => exact ⟨1, 0, rfl, Nat.le_refl _, hn, by omega, by simp [Hid], rfl⟩
      case round =>
        obtain ⟨p, v, rfl, hp1, hpn, hv, hT, rfl⟩ := hrel
        by_cases hpl : p < n
        · by_cases hbig : v < 33554432
          · have cp := hO.2.2.1 p hpl
            have cl := hO.2.2.2 p hpl
            obtain ⟨d, hd⟩ : ∃ d, d = L.getD p 0 := ⟨_, rfl⟩
            rw [← hd] at cp cl
            have HD : Hid (d = L.getD p 0) := hd
            clear hd
            have e7 := low7 d cl
            obtain ⟨d7, hd7⟩ : ∃ d7, d7 = d % 128 := ⟨_, rfl⟩
            have hd7l : d7 < 128 := by omega
            rw [← hd7] at e7
            have HD7 : Hid (d7 = d % 128) := hd7
            clear hd7
            have ej := join7 v d7 hbig hd7l
            by_cases hlast : d < 128
            · have e8 : (bits .and .u8 (d : Int) 128 == 0) = true := by rw [bit7 d cl]; simp [hlast]
              go_wp2
              go_meet
              case rel => exact ⟨p + 1, v * 128 + d7, by go_num, by omega, by omega, by omega, by
                obtain ⟨hx, hm5, hcons, hcls⟩ := HX.out
                have ht := tag_last hp1 (by rw [hO.1]; exact hpl) (by rw [← HD.out]; exact hlast) hbig hT.out
                rw [← HD.out, ← HD7.out] at ht
                show hdr L = _
                rw [hdr_long (by rw [hO.1]; exact hn) hx (by omega), ht, hcls, hcons]; rfl, by simp⟩
            · have e8 : (bits .and .u8 (d : Int) 128 == 0) = false := by rw [bit7 d cl]; simp [hlast]
              go_wp2
              go_roundw
              case rel => exact ⟨p + 1, v * 128 + d7, by go_num, by omega, by omega, by omega, by
                have ht := tag_more hp1 (by rw [hO.1]; exact hpl) (by rw [← HD.out]; exact hlast) hT.out
                rw [← HD.out, ← HD7.out] at ht
                exact ht, by simp⟩
              case measure => simp [intOf]; omega
          · have hnone : P false L = none := by
              obtain ⟨hx, hm5, hcons, hcls⟩ := HX.out
              exact P_no_hdr (by rw [hdr_long (by rw [hO.1]; exact hn) hx (by omega), tag_big (by omega) hT.out]; rfl)
            have hbig' : (33554431 : Int) < (v : Int) := by omega
            have HN : Hid (P false L = none) := hnone
            clear hnone
            go_wp2_with (first | (go_at_call 7; refine (new_any _ _).mono ?_; rintro e w1 ⟨ev, rfl, hv, hb⟩; have ht := res_there hb (hA _)) | (refine wpList_store_mid rfl 28 (.tmp 2) (.tmp 52) rfl w.heap.size 0 Z5 rfl rfl ht size28 z5_one ?_))
            exact fail_end (fun _ _ h => .inl ⟨HN.out, h⟩) hv hb (hA _) (hA' _) rfl rfl rfl
        · have hnone : P false L = none := by
            obtain ⟨hx, hm5, hcons, hcls⟩ := HX.out
            exact P_no_hdr (by rw [hdr_long (by rw [hO.1]; exact hn) hx (by omega), tag_short (by rw [hO.1]; omega) hT.out]; rfl)
          have HN : Hid (P false L = none) := hnone
          clear hnone
          go_wp2_with (first | (go_at_call 7; refine (new_any _ _).mono ?_; rintro e w1 ⟨ev, rfl, hv, hb⟩; have ht := res_there hb (hA _)) | (refine wpList_store_mid rfl 28 (.tmp 2) (.tmp 46) rfl w.heap.size 0 Z5 rfl rfl ht size28 z5_one ?_))
          exact fail_end (fun _ _ h => .inl ⟨HN.out, h⟩) hv hb (hA _) (hA' _) rfl rfl rfl
    · have h31' : ((m : Int) != 31) = true := by simp; omega
      go_wp2
      go_meet
      case rel => exact ⟨1, m, rfl, Nat.le_refl _, hn, by omega, by
        obtain ⟨hx, hm5, hcons, hcls⟩ := HX.out
        show hdr L = _
        rw [hdr_short (by rw [hO.1]; exact hn) hx (by omega), hcls, hcons, hm5], rfl⟩
  case rest =>
    obtain ⟨p, num, rfl, hp1, hpn, hnum, hH, rfl⟩ := hcut
    have hA3 := fun (E F : Obj) => (Below.heap_alloc ((w.alloc (.cells Z5 28)).alloc E) F w.heap.size (by simp; omega)).trans (heap_alloc2_old w (.cells Z5 28) E)
    have hA3' := fun (E F : Obj) => (((Below.refl w.heap.size w).alloc (Nat.le_refl _) (.cells Z5 28)).alloc (by simp) E).alloc (by simp; omega) F
    by_cases hpl : p < n
    · have cp := hO.2.2.1 p hpl
      have cl := hO.2.2.2 p hpl
      obtain ⟨f, hf⟩ : ∃ f, f = L.getD p 0 := ⟨_, rfl⟩
      rw [← hf] at cp cl
      have HF : Hid (f = L.getD p 0) := hf
      clear hf
      by_cases h80 : f = 128
      · have t80 : ((f : Int) == 128) = true := by simp; omega
        cases cons with
        | false =>
          have HN : Hid (P false L = none) := P_prim hH.out (by rw [hO.1]; exact hpl) (by rw [← HF.out]; exact h80)
          go_wp2_with (first | (go_at_call 8; refine (errorf1 cls num (w.heap.size + 1 + 1) _ (by exact World.cell?_alloc_at _ _ _ _ (by simp))).mono ?_; rintro e w1 ⟨ev, rfl, hv, hb⟩; have ht := res_there hb (hA3 _ _)) | (refine wpList_store_mid rfl 28 (.tmp 2) (.tmp 95) rfl w.heap.size 0 Z5 rfl rfl ht size28 z5_one ?_))
          exact fail_end (fun _ _ h => .inl ⟨HN.out, h⟩) hv hb (hA3 _ _) (hA3' _ _) rfl rfl rfl
        | true =>
          have HP : Hid (P false L = (P true (L.drop (p + 1))).map fun s => ⟨cls, num, true, p + 1, p + 1 + s.en - 2, p + 1 + s.en⟩) := P_indef hH.out (by rw [hO.1]; exact hpl) (by rw [← HF.out]; exact h80)
          obtain ⟨W, hW⟩ : ∃ W, W = (w.alloc (.cells #[.int .u8 0, .int .u32 0, .bool false, .slice none 0 0, .slice none 0 0] 28)).alloc (.cells #[.int .u8 cls, .int .u32 num, .bool true, .slice none 0 0, .slice none 0 0] 28) := ⟨_, rfl⟩
          have gZ : W.heap[w.heap.size]? = some (.cells #[.int .u8 0, .int .u32 0, .bool false, .slice none 0 0, .slice none 0 0] 28 (0, 0)) := by rw [hW]; exact heap_alloc2_old w _ _
          have gE : W.heap[w.heap.size + 1]? = some (.cells #[.int .u8 cls, .int .u32 num, .bool true, .slice none 0 0, .slice none 0 0] 28 (0, 0)) := by rw [hW]; exact heap_alloc2_new w _ _
          have gS : W.heap.size = w.heap.size + 1 + 1 := by rw [hW]; simp
          have gB : Below w.heap.size w W := by rw [hW]; exact ((Below.refl _ _).alloc (Nat.le_refl _) _).alloc (by simp) _
          have hE' := hE.out (p + 1) W (by omega) (by omega) (hO.below gB)
          rw [show (((p + 1 : Nat)) : Int) = (p : Int) + 1 by omega] at hE'
          rw [← hW]
          have HE : Hid (Calls Ybaf.prog 9 #[.slice (some ⟨b, o, none⟩) n c, .int .i64 ((p : Int) + 1)] W (Eoc W L (p + 1))) := hE'
          have cp' : W.cell? ⟨b, o + p, none⟩ = some (.int .u8 f) := (gB.cell (p := ⟨b, o + p, none⟩) hblt).trans cp
          have kc : W.cell? ⟨w.heap.size + 1, 2, none⟩ = some (.bool true) := by rw [cell_of_row W _ 2 _ 28 (0, 0) gE]; rfl
          clear hE' hW
          go_wp2_with fail
          refine HE.out.mono ?_
          rintro e w1 (⟨hnone, v, rfl, hv, hb⟩ | ⟨r, hsome, rfl, hb⟩)
          · have HN : Hid (P false L = none) := by
              have := HP.out
              rw [hnone] at this
              exact this
            clear hnone
            have g1Z : w1.heap[w.heap.size]? = some (.cells Z5 28 (0, 0)) := (hb.block _ (by omega)).trans gZ
            have g1E := (hb.block (w.heap.size + 1) (by omega)).trans gE
            have k0 : w1.cell? ⟨w.heap.size + 1, 0, none⟩ = some (.int .u8 cls) := by rw [cell_of_row w1 _ 0 _ 28 (0, 0) g1E]; rfl
            have k1 : w1.cell? ⟨w.heap.size + 1, 1, none⟩ = some (.int .u32 num) := by rw [cell_of_row w1 _ 1 _ 28 (0, 0) g1E]; rfl
            have gs1 : w.heap.size + 1 + 1 ≤ w1.heap.size := by rw [← gS]; exact hb.size
            have gB1 : Below w.heap.size w w1 := gB.trans (hb.mono (by omega))
            have hr2 := fun (F : Obj) => (Below.heap_alloc w1 F w.heap.size (by omega)).trans g1Z
            obtain ⟨t, bb, s0, ht, rfl, hs⟩ := hv
            rcases ht with rfl | rfl
            · go_wp2_with (first | (go_at_call 8; refine (errorfw44 cls num bb w1.heap.size s0 _ (by exact World.cell?_alloc_at _ _ _ _ rfl) (by exact World.cell?_alloc_at _ _ _ _ rfl) (by exact (World.cell?_alloc_lt w1 _ _ (World.block_lt_of_cell? w1 _ hs)).trans hs)).mono ?_; rintro e w2 ⟨ev, rfl, hv2, hb2⟩; have ht := res_there hb2 (hr2 _)) | (refine wpList_store_mid rfl 28 (.tmp 2) (.tmp 109) rfl w.heap.size 0 Z5 rfl rfl ht size28 z5_one ?_))
              exact fail_end (fun _ _ h => .inl ⟨HN.out, h⟩) hv2 hb2 (hr2 _) (gB1.alloc (by omega) _) rfl rfl rfl
            · go_wp2_with (first | (go_at_call 8; refine (errorfw48 cls num bb w1.heap.size s0 _ (by exact World.cell?_alloc_at _ _ _ _ rfl) (by exact World.cell?_alloc_at _ _ _ _ rfl) (by exact (World.cell?_alloc_lt w1 _ _ (World.block_lt_of_cell? w1 _ hs)).trans hs)).mono ?_; rintro e w2 ⟨ev, rfl, hv2, hb2⟩; have ht := res_there hb2 (hr2 _)) | (refine wpList_store_mid rfl 28 (.tmp 2) (.tmp 109) rfl w.heap.size 0 Z5 rfl rfl ht size28 z5_one ?_))
              exact fail_end (fun _ _ h => .inl ⟨HN.out, h⟩) hv2 hb2 (hr2 _) (gB1.alloc (by omega) _) rfl rfl rfl
          · have gpos := P_pos hsome
            have HR : Hid (P false L = some ⟨cls, num, true, p + 1, p + 1 + r.en - 2, p + 1 + r.en⟩) := by
              have := HP.out
              rw [hsome] at this
              exact this
            have hlen : r.en ≤ n - (p + 1) := by have := gpos.2.1; simp at this; rw [hO.1] at this; exact this
            have hen2 := gpos.1
            clear gpos hsome
            obtain ⟨en, hen⟩ : ∃ en, en = p + 1 + r.en := ⟨_, rfl⟩
            rw [← hen] at HR ⊢
            have b1 : p + 1 + 2 ≤ en := by omega
            have b2 : en ≤ n := by omega
            clear hen hlen hen2
            have g1Z := (hb.block w.heap.size (by omega)).trans gZ
            have g1E := (hb.block (w.heap.size + 1) (by omega)).trans gE
            have gs1 : w.heap.size + 1 + 1 ≤ w1.heap.size := by rw [← gS]; exact hb.size
            have gB1 : Below w.heap.size w w1 := gB.trans (hb.mono (by omega))
            have k0 : w1.cell? ⟨w.heap.size + 1, 0, none⟩ = some (.int .u8 cls) := by rw [cell_of_row w1 _ 0 _ 28 (0, 0) g1E]; rfl
            have k1 : w1.cell? ⟨w.heap.size + 1, 1, none⟩ = some (.int .u32 num) := by rw [cell_of_row w1 _ 1 _ 28 (0, 0) g1E]; rfl
            have k2 : w1.cell? ⟨w.heap.size + 1, 2, none⟩ = some (.bool true) := by rw [cell_of_row w1 _ 2 _ 28 (0, 0) g1E]; rfl
            have k3 : w1.cell? ⟨w.heap.size + 1, 3, none⟩ = some (.slice none 0 0) := by rw [cell_of_row w1 _ 3 _ 28 (0, 0) g1E]; rfl
            have k4 : w1.cell? ⟨w.heap.size + 1, 4, none⟩ = some (.slice none 0 0) := by rw [cell_of_row w1 _ 4 _ 28 (0, 0) g1E]; rfl
            have z0 : w1.cell? ⟨w.heap.size, 0, none⟩ = some (.int .u8 0) := by rw [cell_of_row w1 _ 0 _ 28 (0, 0) g1Z]; rfl
            have z1 : w1.cell? ⟨w.heap.size, 1, none⟩ = some (.int .u32 0) := by rw [cell_of_row w1 _ 1 _ 28 (0, 0) g1Z]; rfl
            have z2 : w1.cell? ⟨w.heap.size, 2, none⟩ = some (.bool false) := by rw [cell_of_row w1 _ 2 _ 28 (0, 0) g1Z]; rfl
            have z3 : w1.cell? ⟨w.heap.size, 3, none⟩ = some (.slice none 0 0) := by rw [cell_of_row w1 _ 3 _ 28 (0, 0) g1Z]; rfl
            have z4 : w1.cell? ⟨w.heap.size, 4, none⟩ = some (.slice none 0 0) := by rw [cell_of_row w1 _ 4 _ 28 (0, 0) g1Z]; rfl
            have fE := fun j => frozen_of_row w1 (w.heap.size + 1) j _ 28 g1E
            have fZ := fun j => frozen_of_row w1 w.heap.size j _ 28 g1Z
            have hth : w1.there w.heap.size 0 5 := res_there hb gZ
            by_cases hcp : c = p + 1
            · exact absurd hcp (by omega)
            · by_cases hce : c = en
              · have hcn : n ≤ en := by omega
                subst hce
                go_wp2
                go_region
                go_wp2
                refine good_range (E := [.int .u8 cls, .int .u32 num, .bool true, .slice (some ⟨b, o + (p + 1), none⟩) (c - 2 - (p + 1)) (c - (p + 1)), .slice (some ⟨b, o, none⟩) c c]) rfl ?_ rfl rfl rfl (.inr ⟨_, HR.out, some ⟨b, o + (p + 1), none⟩, some ⟨b, o, none⟩, ⟨b, o, none⟩, c - (p + 1), c, 0, (by show _ = Ending.returned (.tuple #[_, .slice _ (n - c) _, _]); rw [show n - c = 0 from by omega]; rfl), fun _ => rfl, rfl, fun h => (by have h' : 0 < n - c := h; omega), ?_⟩)
                · rw [World.rangeAt_drew]
                  exact store_two _ _ _ _ _ _ _ hth
                · exact (gB1.trans (store_below _ _ _ _ _ _ _)).drew
              · go_wp2
                go_region
                go_wp2
                refine good_range (E := [.int .u8 cls, .int .u32 num, .bool true, .slice (some ⟨b, o + (p + 1), none⟩) (en - 2 - (p + 1)) (c - (p + 1)), .slice (some ⟨b, o, none⟩) en c]) rfl ?_ rfl rfl rfl (.inr ⟨_, HR.out, _, _, _, _, _, _, rfl, fun _ => rfl, rfl, fun h => rfl, ?_⟩)
                · rw [World.rangeAt_drew]
                  exact store_two _ _ _ _ _ _ _ hth
                · exact (gB1.trans (store_below _ _ _ _ _ _ _)).drew
      · have t80 : ((f : Int) == 128) = false := by simp; omega
        by_cases hff : f = 255
        · have tff : ((f : Int) == 255) = true := by simp; omega
          have HN : Hid (P false L = none) := P_ff hH.out (by rw [hO.1]; exact hpl) (by rw [← HF.out]; exact hff)
          go_wp2_with (first | (go_at_call 8; refine (errorf2 cls num (w.heap.size + 1 + 1) _ (by exact World.cell?_alloc_at _ _ _ _ (by simp))).mono ?_; rintro e w1 ⟨ev, rfl, hv, hb⟩; have ht := res_there hb (hA3 _ _)) | (refine wpList_store_mid rfl 28 (.tmp 2) (.tmp 133) rfl w.heap.size 0 Z5 rfl rfl ht size28 z5_one ?_))
          exact fail_end (fun _ _ h => .inl ⟨HN.out, h⟩) hv hb (hA3 _ _) (hA3' _ _) rfl rfl rfl
        · have tff : ((f : Int) == 255) = false := by simp; omega
          have HP : Hid (P false L = defin L cls num cons f (p + 1)) := by
            have := P_def hH.out (by rw [hO.1]; exact hpl) (by rw [← HF.out]; exact h80) (by rw [← HF.out]; exact hff)
            rw [← HF.out] at this
            exact this
          go_upto_if 142 with fail
          go_cut [7, 13] (fun sat sv wc => ∃ q v : Nat, sat = .int .i64 q ∧ sv = .int .u64 v ∧ p < q ∧ q ≤ n ∧ v < 18446744073709551616 ∧ Hid (P false L = if v ≤ n - q then some ⟨cls, num, cons, q, q + v, q + v⟩ else none) ∧
            wc = (w.alloc (.cells #[.int .u8 0, .int .u32 0, .bool false, .slice none 0 0, .slice none 0 0] 28)).alloc (.cells #[.int .u8 cls, .int .u32 num, .bool cons, .slice none 0 0, .slice none 0 0] 28))
          case first =>
            by_cases hlow : f < 128
            · have tl : ¬ (128 : Int) < (f : Int) := by omega
              go_wp2
              go_meet
              case rel => exact ⟨p + 1, f, by go_num, rfl, by omega, by omega, by omega, by
                have := HP.out
                rw [def_low hlow, hO.1] at this
                exact this, rfl⟩
            · have tl : (128 : Int) < (f : Int) := by omega
              have e7 : bits .and .u8 (f : Int) 127 = ((f - 128 : Nat) : Int) := by rw [low7 f cl]; congr 1; omega
              obtain ⟨nd, hnd⟩ : ∃ nd, nd = f - 128 := ⟨_, rfl⟩
              have hnd1 : 1 ≤ nd := by omega
              have hnd2 : nd ≤ 126 := by omega
              rw [← hnd] at e7
              have HND : Hid (nd = f - 128) := hnd
              clear hnd
              by_cases hsh : n < p + 1 + nd
              · have HN : Hid (P false L = none) := by
                  have := HP.out
                  rw [def_short hlow (by rw [hO.1, ← HND.out]; omega)] at this
                  exact this
                have tsh : (n : Int) < (p : Int) + 1 + (nd : Int) := by omega
                go_wp2_with (first | (go_at_call 8; refine (errorf3 cls num (w.heap.size + 1 + 1) _ (by exact World.cell?_alloc_at _ _ _ _ (by simp))).mono ?_; rintro e w1 ⟨ev, rfl, hv, hb⟩; have ht := res_there hb (hA3 _ _)) | (refine wpList_store_mid rfl 28 (.tmp 2) (.tmp 152) rfl w.heap.size 0 Z5 rfl rfl ht size28 z5_one ?_))
                exact fail_end (fun _ _ h => .inl ⟨HN.out, h⟩) hv hb (hA3 _ _) (hA3' _ _) rfl rfl rfl
              · have tsh : ¬ (n : Int) < (p : Int) + 1 + (nd : Int) := by omega
                go_wp2
                go_loopw [13, 165] (fun sv sk wr => ∃ k v : Nat, sk = .int .i64 k ∧ sv = .int .u64 v ∧ k ≤ nd ∧ v < 18446744073709551616 ∧ Hid (v = be ((L.drop (p + 1)).take k) 0) ∧
                    wr = (w.alloc (.cells #[.int .u8 0, .int .u32 0, .bool false, .slice none 0 0, .slice none 0 0] 28)).alloc (.cells #[.int .u8 cls, .int .u32 num, .bool cons, .slice none 0 0, .slice none 0 0] 28)) (fun _ sk _ => nd - (intOf sk).toNat)
                case atStart => exact ⟨0, 0, rfl, rfl, Nat.zero_le _, by omega, by simp [Hid, be], rfl⟩
                case round =>
                  obtain ⟨k, v, rfl, rfl, hk, hvb, hV, rfl⟩ := hrel
                  by_cases hkl : k < nd
                  · have cd := hO.2.2.1 (p + 1 + k) (by omega)
                    have cdl := hO.2.2.2 (p + 1 + k) (by omega)
                    obtain ⟨d, hd⟩ : ∃ d, d = L.getD (p + 1 + k) 0 := ⟨_, rfl⟩
                    rw [← hd, ← Nat.add_assoc o (p + 1) k] at cd
                    rw [← hd] at cdl
                    have HD : Hid (d = L.getD (p + 1 + k) 0) := hd
                    clear hd
                    by_cases hbig : v < 72057594037927936
                    · have ej := join8 v d hbig cdl
                      have tb : ¬ (72057594037927935 : Int) < (v : Int) := by omega
                      go_wp2
                      go_roundw
                      case rel => exact ⟨k + 1, v * 256 + d, by go_num, by go_num, by omega, by omega, by
                        show v * 256 + d = _
                        rw [be_take _ k (by simp; rw [hO.1]; omega), ← hV.out, HD.out]; simp, by first | rfl | trivial⟩
                      case measure => simp [intOf]; omega
                    · have HN : Hid (P false L = none) := by
                        have := HP.out
                        rw [def_high hlow (by rw [hO.1, ← HND.out]; omega) rfl, if_neg] at this
                        · exact this
                        · have hmore := be_more (L.drop (p + 1)) k nd hkl (by simp; rw [hO.1]; omega)
                          rw [← hV.out] at hmore
                          rw [← HND.out, hO.1]
                          omega
                      have tb : (72057594037927935 : Int) < (v : Int) := by omega
                      go_wp2_with (first | (go_at_call 8; refine (errorf4 cls num (w.heap.size + 1 + 1) _ (by exact World.cell?_alloc_at _ _ _ _ (by simp))).mono ?_; rintro e w1 ⟨ev, rfl, hv, hb⟩; have ht := res_there hb (hA3 _ _)) | (refine wpList_store_mid rfl 28 (.tmp 2) (.tmp 171) rfl w.heap.size 0 Z5 rfl rfl ht size28 z5_one ?_))
                      exact fail_end (fun _ _ h => .inl ⟨HN.out, h⟩) hv hb (hA3 _ _) (hA3' _ _) rfl rfl rfl
                  · have ek : k = nd := by omega
                    rw [ek] at hV
                    clear ek
                    go_wp2
                    go_meet
                    case rel => exact ⟨p + 1 + nd, v, by go_num, rfl, by omega, by omega, hvb, by
                      have := HP.out
                      rw [def_high (v := v) hlow (by rw [hO.1, ← HND.out]; omega) (by rw [← HND.out]; exact hV.out), ← HND.out, hO.1] at this
                      exact this, rfl⟩
          case rest =>
            obtain ⟨q, v, rfl, rfl, hpq, hqn, hvb, HR, rfl⟩ := hcut
            by_cases hfit : v ≤ n - q
            · by_cases hcq : c = q
              · subst hcq
                go_wp2
                go_region
                go_wp2
                exact good_end rfl (heap_alloc2_old w _ _) rfl rfl rfl (.inr ⟨_, by rw [HR.out, if_pos hfit], found_of (fun h => by omega) ⟨_, rfl, fun h => by omega⟩ (below_drew2 w _ _)⟩)
              · go_wp2
                go_region
                go_wp2
                all_goals exact good_end rfl (heap_alloc2_old w _ _) rfl rfl rfl (.inr ⟨_, by rw [HR.out, if_pos hfit], found_of (fun h => rfl) ⟨_, rfl, fun h => by first | rfl | omega⟩ (below_drew2 w _ _)⟩)
            · have HN : Hid (P false L = none) := by
                have := HR.out
                rw [if_neg hfit] at this
                exact this
              have tf : (n : Int) - (q : Int) < (v : Int) := by omega
              go_wp2_with (first | (go_at_call 8; refine (errorf6 cls num v ((n : Int) - (q : Int)) (w.heap.size + 1 + 1) _ (by exact World.cell?_alloc_at _ _ _ _ (by simp)) (by exact World.cell?_alloc_at _ _ _ _ (by simp)) (by exact World.cell?_alloc_at _ _ _ _ (by simp))).mono ?_; rintro e w1 ⟨ev, rfl, hv, hb⟩; have ht := res_there hb (hA3 _ _)) | (refine wpList_store_mid rfl 28 (.tmp 2) (.tmp 194) rfl w.heap.size 0 Z5 rfl rfl ht size28 z5_one ?_))
              exact fail_end (fun _ _ h => .inl ⟨HN.out, h⟩) hv hb (hA3 _ _) (hA3' _ _) rfl rfl rfl
    · have HN : Hid (P false L = none) := P_no_len hH.out (by rw [hO.1]; omega)
      go_wp2_with (first | (go_at_call 8; refine (errorf0 cls num (w.heap.size + 1 + 1) _ (by exact World.cell?_alloc_at _ _ _ _ (by simp))).mono ?_; rintro e w1 ⟨ev, rfl, hv, hb⟩; have ht := res_there hb (hA3 _ _)) | (refine wpList_store_mid rfl 28 (.tmp 2) (.tmp 77) rfl w.heap.size 0 Z5 rfl rfl ht size28 z5_one ?_))
      exact fail_end (fun _ _ h => .inl ⟨HN.out, h⟩) hv hb (hA3 _ _) (hA3' _ _) rfl rfl rfl
end Go.Proofs.YbulkdvskFmt
