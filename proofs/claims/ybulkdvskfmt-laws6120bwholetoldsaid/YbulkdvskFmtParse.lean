/-
  zzs6120bparse (6): the model reckons P too.
-/
import Derived.Test.YbulkdvskFmtEoc
namespace Go.Proofs.YbulkdvskFmt
open Go.RowKit

/-- The zero zzs6120bres. -/
def Z7 : Array Value := #[.bool false, .int .u8 0, .int .u32 0, .bool false, .int .i64 0, .int .i64 0, .int .i64 0]
theorem size35 : (Ybaf.prog.info? 35).map (·.size) = some 7 := by kernel_rfl
theorem z7_one : Z7.all (·.oneCell') = true := by kernel_rfl

/-- What the model leaves. -/
def Told (w : World) (L : List Nat) (e : Ending) (w' : World) : Prop :=
  (P false L = none ∧ e = .returned (.agg Z7) ∧ Below w.heap.size w w') ∨
  ∃ r, P false L = some r ∧ e = .returned (.agg #[.bool true, .int .u8 r.cls, .int .u32 r.num, .bool r.cons, .int .i64 r.cs, .int .i64 r.ce, .int .i64 r.en]) ∧ Below w.heap.size w w'

theorem results6 (tmps : Array Value) (w : World) (r : Nat) (E : Array Value) (hE : E.size = 7) (hp : tmps.getD 2 undef = .pointer (some ⟨r, 0, none⟩)) (hr : w.rangeAt r 0 E.toList) :
    (results Ybaf.f6 tmps).run Ybaf.prog w = .ok (.agg E) w := by
  have hv := run_loadVar_mid (P := Ybaf.prog) w r 0 35 E.toList _ hr Ybaf.underlying35 rfl (by rw [Array.length_toList, hE]; exact size35)
  have hp' : tmps[2]?.getD undef = .pointer (some ⟨r, 0, none⟩) := by simpa using hp
  simp [results, Ybaf.results6, hp', asAddr, hv]

theorem told_end {Q : Ending → World → Prop} {w W : World} {tmps : Array Value} {E : Array Value} (hE : E.size = 7) (hr : W.heap[w.heap.size]? = some (.cells E 35 (0, 0)))
    (h2 : tmps.getD 2 undef = .pointer (some ⟨w.heap.size, 0, none⟩)) (hQ : Q (.returned (.agg E)) W) : bodyPost Ybaf.prog Ybaf.f6 Q .ret { tmps := tmps, defers := [] } W := by
  refine bodyPost_ret (v := .agg E) ?_ rfl hQ
  exact results6 tmps W w.heap.size E hE h2 (fun j v hv => by
    rw [Nat.zero_add, cell_of_row W _ j E 35 (0, 0) hr]
    simpa using hv)

theorem bit5' (x : Nat) (h : x < 256) : (bits .and .u8 ((x : Int) / 32) 1 == 1) = decide (x / 32 % 2 = 1) := by
  have e1 : ((x : Int) / 32) = ((x / 32 : Nat) : Int) := by simp
  have e : bits .and .u8 ((x : Int) / 32) 1 = ((x / 32 &&& 1 : Nat) : Int) := by rw [e1]; exact u8_and_nat (x / 32) 1 (by omega) (by decide)
  rw [e, Nat.and_one_is_mod]
  rcases Nat.mod_two_eq_zero_or_one (x / 32) with h | h <;> simp [h]

set_option maxHeartbeats 400000 in
set_option maxRecDepth 100000 in
theorem parse_empty (a : Option Addr) (c : Nat) (L : List Nat) (w : World) (hL : L.length = 0) : Calls Ybaf.prog 6 #[.slice a 0 c] w (Told w L) := by
  have hn := P_empty hL
  have HN : Hid (P false L = none) := hn
  clear hn
  go_enter Ybaf.func6, Ybaf.ntmps6
  go_wp2
  exact told_end rfl (heap_alloc2_old w _ _) rfl (.inl ⟨HN.out, rfl, below2 w _ _ 0⟩)


theorem told_range {Q : Ending → World → Prop} {w W : World} {tmps : Array Value} {E : List Value} (hE : E.length = 7) (hra : W.rangeAt w.heap.size 0 E)
    (h2 : tmps.getD 2 undef = .pointer (some ⟨w.heap.size, 0, none⟩)) (hQ : Q (.returned (.agg E.toArray)) W) : bodyPost Ybaf.prog Ybaf.f6 Q .ret { tmps := tmps, defers := [] } W :=
  bodyPost_ret (v := .agg E.toArray) (results6 tmps W w.heap.size E.toArray (by simpa using hE) h2 (by simpa using hra)) rfl hQ

theorem told_fail {Q : Ending → World → Prop} {w W1 : World} {tmps : Array Value} {L : List Nat} (hth : W1.there w.heap.size 0 7) (hB : Below w.heap.size w W1) (hN : P false L = none) (hQ : ∀ e w', Told w L e w' → Q e w')
    (h2 : tmps.getD 2 undef = .pointer (some ⟨w.heap.size, 0, none⟩)) : bodyPost Ybaf.prog Ybaf.f6 Q .ret { tmps := tmps, defers := [] } (W1.setCells w.heap.size 0 Z7.toList) :=
  bodyPost_ret (v := .agg Z7) (results6 tmps _ w.heap.size Z7 rfl h2 (World.rangeAt_setCells_same _ _ _ _ hth)) rfl (hQ _ _ (.inl ⟨hN, rfl, hB.trans (sets_below _ _ _ _ _ (Nat.le_refl _))⟩))

theorem below_two (w : World) (o1 o2 : Obj) : Below w.heap.size w ((w.alloc o1).alloc o2) := ((Below.refl _ _).alloc (Nat.le_refl _) _).alloc (by simp) _

theorem there7 {W : World} {r : Nat} {E : Array Value} (hE : E.size = 7) (h : W.heap[r]? = some (.cells E 35 (0, 0))) : W.there r 0 7 := fun j hj => by
  rw [Nat.zero_add]
  refine ⟨?_, frozen_of_row W r j E 35 h⟩
  rw [cell_of_row W r j E 35 (0, 0) h]
  have : j < E.size := by rw [hE]; exact hj
  simp [this]

theorem store_seven {w1 : World} {r : Nat} (A B C D v0 v1 v2 v3 v4 v5 v6 : Value) (h : w1.there r 0 7) : (((((((((((w1.setCell ⟨r + 1, 4, none⟩ A).setCell ⟨r + 1, 5, none⟩ B).setCell ⟨r + 1, 6, none⟩ C).setCell ⟨r + 1, 0, none⟩ D).setCell ⟨r, 0, none⟩ v0).setCell ⟨r, 1, none⟩ v1).setCell ⟨r, 2, none⟩ v2).setCell ⟨r, 3, none⟩ v3).setCell ⟨r, 4, none⟩ v4).setCell ⟨r, 5, none⟩ v5).setCell ⟨r, 6, none⟩ v6).rangeAt r 0 [v0, v1, v2, v3, v4, v5, v6] :=
  World.rangeAt_setCells_same (((w1.setCells (r + 1) 4 [A, B, C])).setCells (r + 1) 0 [D]) r 0 [v0, v1, v2, v3, v4, v5, v6] (World.there_setCells (World.there_setCells h _ _ _) _ _ _)
theorem seven_below {w1 : World} {r : Nat} (A B C D v0 v1 v2 v3 v4 v5 v6 : Value) : Below r w1 (((((((((((w1.setCell ⟨r + 1, 4, none⟩ A).setCell ⟨r + 1, 5, none⟩ B).setCell ⟨r + 1, 6, none⟩ C).setCell ⟨r + 1, 0, none⟩ D).setCell ⟨r, 0, none⟩ v0).setCell ⟨r, 1, none⟩ v1).setCell ⟨r, 2, none⟩ v2).setCell ⟨r, 3, none⟩ v3).setCell ⟨r, 4, none⟩ v4).setCell ⟨r, 5, none⟩ v5).setCell ⟨r, 6, none⟩ v6) :=
  ((sets_below [A, B, C] w1 r (r + 1) 4 (by omega)).trans (sets_below [D] _ r (r + 1) 0 (by omega))).trans (sets_below [v0, v1, v2, v3, v4, v5, v6] _ r r 0 (Nat.le_refl _))

/-- The model at every shorter length. -/
def ShorterP (N : Nat) : Prop := ∀ (m : Nat), m < N → ∀ (b o c : Nat) (L : List Nat) (w : World), Oct w b o m L → m ≤ c → m ≤ 1048576 → Calls Ybaf.prog 6 #[.slice (some ⟨b, o, none⟩) m c] w (Told w L)

/-! ### The digits of a length -/
/-- Between q and i there are noughts. -/
def Zs (L : List Nat) (q i : Nat) : Prop := ∀ t, q ≤ t → t < i → L.getD t 0 = 0
theorem zs_start (L : List Nat) (q : Nat) : Zs L q q := fun t h1 h2 => by omega
theorem zs_step {L : List Nat} {q i : Nat} (h : Zs L q i) (h0 : L.getD i 0 = 0) : Zs L q (i + 1) := fun t h1 h2 => by
  by_cases e : t = i
  · rw [e]; exact h0
  · exact h t h1 (by omega)
theorem zs_be {L : List Nat} {q : Nat} : ∀ (k : Nat), q + k ≤ L.length → Zs L q (q + k) → be ((L.drop q).take k) 0 = 0
  | 0, _, _ => by simp [be]
  | k + 1, hk, h => by
    rw [be_take _ k (by simp; omega), zs_be k (by omega) (fun t h1 h2 => h t h1 (by omega)), drop_getD, h (q + k) (by omega) (by omega)]
theorem be_pow {l : List Nat} {k : Nat} (h1 : 1 ≤ be (l.take (k + 1)) 0) : ∀ j, k + 1 + j ≤ l.length → 256 ^ j ≤ be (l.take (k + 1 + j)) 0
  | 0, _ => by simpa using h1
  | j + 1, h => by
    have ih := be_pow h1 j (by omega)
    rw [← Nat.add_assoc, be_take l (k + 1 + j) (by omega), Nat.pow_succ]
    exact Nat.le_trans (Nat.mul_le_mul_right 256 ih) (Nat.le_add_right _ _)
theorem be_mono {l : List Nat} {k : Nat} : ∀ j, k + j ≤ l.length → be (l.take k) 0 ≤ be (l.take (k + j)) 0
  | 0, _ => Nat.le_refl _
  | j + 1, h => by
    have ih := be_mono (l := l) (k := k) j (by omega)
    rw [← Nat.add_assoc, be_take l (k + j) (by omega)]
    omega
/-- More than eight digits behind the noughts: too great for 64 bits. -/
theorem be_eight {L : List Nat} {q i nd : Nat} (hqi : q ≤ i) (hl : q + nd ≤ L.length) (hd : L.getD i 0 ≠ 0) (h8 : i + 8 < q + nd) : 18446744073709551616 ≤ be ((L.drop q).take nd) 0 := by
  have e1 : 1 ≤ be ((L.drop q).take (i - q + 1)) 0 := by
    rw [be_take _ (i - q) (by simp; omega), drop_getD, show q + (i - q) = i by omega]
    omega
  have e2 := be_pow e1 8 (by simp; omega)
  have e3 := be_mono (l := L.drop q) (k := i - q + 1 + 8) (nd - (i - q + 1 + 8)) (by simp; omega)
  rw [show i - q + 1 + 8 + (nd - (i - q + 1 + 8)) = nd by omega] at e3
  exact Nat.le_trans e2 e3

/-- The digits from q to i read v; what is left up to e fits. -/
def Acc (L : List Nat) (q e i v : Nat) : Prop := v = be ((L.drop q).take (i - q)) 0 ∧ (v + 1) * 256 ^ (e - i) ≤ 18446744073709551616
theorem acc_start {L : List Nat} {q e i : Nat} (hqi : q ≤ i) (hl : i ≤ L.length) (hz : Zs L q i) (h8 : e - i ≤ 8) : Acc L q e i 0 := by
  refine ⟨(zs_be (i - q) (by omega) (by rw [show q + (i - q) = i by omega]; exact hz)).symm, ?_⟩
  rw [Nat.zero_add, Nat.one_mul]
  exact Nat.pow_le_pow_right (n := 256) (by decide) h8
theorem acc_lt {L : List Nat} {q e i v : Nat} (h : Acc L q e i v) (hi : i < e) : v < 72057594037927936 := by
  have h2 := h.2
  rw [show e - i = (e - i - 1) + 1 by omega, Nat.pow_succ, ← Nat.mul_assoc] at h2
  have h3 : 0 < 256 ^ (e - i - 1) := Nat.pow_pos (by decide)
  have h4 : v + 1 ≤ (v + 1) * 256 ^ (e - i - 1) := Nat.le_mul_of_pos_right _ h3
  omega
theorem acc_step {L : List Nat} {q e i v d : Nat} (h : Acc L q e i v) (hqi : q ≤ i) (hi : i < e) (hl : e ≤ L.length) (hd : d = L.getD i 0) (hd2 : d < 256) : Acc L q e (i + 1) (v * 256 + d) := by
  refine ⟨?_, ?_⟩
  · rw [show i + 1 - q = i - q + 1 by omega, be_take _ (i - q) (by simp; omega), ← h.1, drop_getD, show q + (i - q) = i by omega, ← hd]
  · have h2 := h.2
    rw [show e - i = (e - (i + 1)) + 1 by omega, Nat.pow_succ, Nat.mul_comm _ 256, ← Nat.mul_assoc] at h2
    exact Nat.le_trans (Nat.mul_le_mul_right _ (by omega)) h2
theorem acc_end {L : List Nat} {q nd v : Nat} (h : Acc L q (q + nd) (q + nd) v) : v = be ((L.drop q).take nd) 0 ∧ v < 18446744073709551616 := by
  have h2 := h.2
  rw [Nat.sub_self, Nat.pow_zero] at h2
  refine ⟨?_, by omega⟩
  have h1 := h.1
  rw [Nat.add_sub_cancel_left] at h1
  exact h1

theorem wrap_two (vr d7 y : Nat) (h1 : vr < 4294967296) (h2 : d7 < 128) (hy : y = vr * 128 + d7) : IntKind.u64.wrap (IntKind.u64.wrap ((vr : Int) * 128) + (d7 : Int)) = (y : Int) := by
  have w1 : IntKind.u64.wrap ((vr : Int) * 128) = (vr : Int) * 128 := by simp [IntKind.wrap, IntKind.bits, IntKind.signed]; omega
  have w2 : IntKind.u64.wrap ((vr : Int) * 128 + (d7 : Int)) = (vr : Int) * 128 + (d7 : Int) := by simp [IntKind.wrap, IntKind.bits, IntKind.signed]; omega
  rw [w1, w2, hy]
  omega
theorem wrap_u32 (y : Nat) (h : y < 4294967296) : IntKind.u32.wrap (y : Int) = (y : Int) := by
  simp [IntKind.wrap, IntKind.bits, IntKind.signed]; omega

set_option maxHeartbeats 2000000 in
set_option maxRecDepth 100000 in
theorem parse_main (b o n c : Nat) (L : List Nat) (w : World) (hO : Oct w b o n L) (hn : 1 ≤ n) (hc : n ≤ c) (hm : n ≤ 1048576) (IH : Hid (ShorterP n)) : Calls Ybaf.prog 6 #[.slice (some ⟨b, o, none⟩) n c] w (Told w L) := by
  have c0 := hO.2.2.1 0 (by omega)
  have hblt := hO.2.1
  obtain ⟨x, hx⟩ : ∃ x, x = L.getD 0 0 := ⟨_, rfl⟩
  have hx256 : x < 256 := by rw [hx]; exact hO.2.2.2 0 (by omega)
  rw [← hx, Nat.add_zero] at c0
  obtain ⟨m, hm5⟩ : ∃ m, m = x % 32 := ⟨_, rfl⟩
  obtain ⟨cons, hcons⟩ : ∃ cons, cons = decide (x / 32 % 2 = 1) := ⟨_, rfl⟩
  obtain ⟨cls, hcls⟩ : ∃ cls, cls = x / 64 := ⟨_, rfl⟩
  have hm32 : m < 32 := by omega
  have e31 : bits .and .u8 (x : Int) 31 = (m : Int) := by rw [hm5]; exact low5 x hx256
  have e32 : (bits .and .u8 ((x : Int) / 32) 1 == 1) = cons := by rw [hcons]; exact bit5' x hx256
  have e64 : (x : Int) / 64 = (cls : Int) := by rw [hcls]; omega
  have e64' : (x : Int).tdiv 64 = (cls : Int) := by rw [Int.tdiv_eq_ediv_of_nonneg (by omega)]; exact e64
  have HX : Hid (x = L.getD 0 0 ∧ m = x % 32 ∧ cons = decide (x / 32 % 2 = 1) ∧ cls = x / 64) := ⟨hx, hm5, hcons, hcls⟩
  clear hx hm5 hcons hcls
  have hl0 : (0 : Int) < (n : Int) := by omega
  have hn0 : ((n : Int) == 0) = false := by simp; omega
  go_enter Ybaf.func6, Ybaf.ntmps6
  go_upto_if 31 with fail
  go_cut [5] (fun sat wc => ∃ p num : Nat, sat = .int .i64 p ∧ 1 ≤ p ∧ p ≤ n ∧ num < 4294967296 ∧ Hid (hdr L = some (cls, num, cons, p)) ∧ wc = (w.alloc (.cells #[.bool false, .int .u8 0, .int .u32 0, .bool false, .int .i64 0, .int .i64 0, .int .i64 0] 35)).alloc (.cells #[.bool false, .int .u8 cls, .int .u32 num, .bool cons, .int .i64 0, .int .i64 0, .int .i64 0] 35))
  case first =>
    by_cases h31 : m = 31
    · have h31' : ¬ (m : Int) < 31 := by omega
      have HL : Hid (hdr L = (tagL (L.drop 1) 0).map fun y => (cls, y.1, cons, y.2 + 1)) := by
        obtain ⟨hx, hm5, hcons, hcls⟩ := HX.out
        rw [hcls, hcons]
        exact hdr_long (by rw [hO.1]; exact hn) hx (by omega)
      go_wp2
      go_loop [5, 6] (fun sat sv => ∃ p vr : Nat, sat = .int .i64 p ∧ sv = .int .u64 vr ∧ 1 ≤ p ∧ p ≤ n ∧ vr < 1099511627776 ∧ Hid (Rt L p vr)) (fun sat _ => n - (intOf sat).toNat)
      case atStart => exact ⟨1, 0, rfl, rfl, Nat.le_refl _, hn, by omega, rt_start L⟩
      case round =>
        obtain ⟨p, vr, rfl, rfl, hp1, hpn, hvr, HT⟩ := hrel
        by_cases hpl : p < n
        · have cp := hO.2.2.1 p hpl
          have cl := hO.2.2.2 p hpl
          obtain ⟨d, hd⟩ : ∃ d, d = L.getD p 0 := ⟨_, rfl⟩
          rw [← hd] at cp cl
          have HD : Hid (d = L.getD p 0) := hd
          clear hd
          have e7 := low7 d cl
          obtain ⟨d7, hd7⟩ : ∃ d7, d7 = d % 128 := ⟨_, rfl⟩
          have hd7l : d7 < 128 := by omega
          rw [← hd7] at e7
          have HD7 : Hid (d7 = d % 128) := hd7
          clear hd7
          have HV : Hid (vr < 1099511627776) := hvr
          clear hvr
          go_upto_if 48 with fail
          by_cases hsm0 : vr < 4294967296
          · have hsm : Hid (vr < 4294967296) := hsm0
            rw [show decide ((vr : Int) < 4294967296) = true from decide_eq_true (by omega)]
            clear hsm0
            go_upto_if 56 with fail
            obtain ⟨y, hy⟩ : ∃ y, y = vr * 128 + d7 := ⟨_, rfl⟩
            have hw : IntKind.u64.wrap (IntKind.u64.wrap ((vr : Int) * 128) + (d7 : Int)) = (y : Int) := wrap_two vr d7 y hsm.out hd7l hy
            rw [hw]
            clear hw
            have HY : Hid (y = vr * 128 + d7) := hy
            clear hy
            by_cases hlast : d < 128
            · have hT := rt_last HT.out hp1 (by rw [hO.1]; exact hpl) (by rw [← HD.out]; exact hlast) hsm.out
              rw [← HD.out, ← HD7.out, ← HY.out] at hT
              have HT2 : Hid (tagL (L.drop 1) 0 = if y < 4294967296 then some (y, p) else none) := hT
              clear hT
              go_upto_if 58 with fail
              by_cases hfit0 : y < 4294967296
              · have hfit : Hid (y < 4294967296) := hfit0
                rw [show decide ((4294967296 : Int) ≤ (y : Int)) = false from decide_eq_false (by omega)]
                have hw : IntKind.u32.wrap (y : Int) = (y : Int) := wrap_u32 y hfit0
                clear hfit0
                go_wp2
                go_meet
                case rel => exact ⟨p + 1, y, by go_num, by omega, by omega, hfit.out, by
                  have := HL.out
                  rw [HT2.out, if_pos hfit.out] at this
                  exact this, by first | rfl | simp⟩
              · have HN : Hid (P false L = none) := P_no_hdr (by rw [HL.out, HT2.out, if_neg hfit0]; rfl)
                rw [show decide ((4294967296 : Int) ≤ (y : Int)) = true from decide_eq_true (by omega)]
                clear hfit0
                go_wp2
                exact told_end rfl (heap_alloc2_old w _ _) rfl (.inl ⟨HN.out, rfl, below_two w _ _⟩)
            · go_wp2
              go_round
              case rel => exact ⟨p + 1, y, by go_num, rfl, by omega, by omega, by have := hsm.out; have := HY.out; omega, by
                have hT := rt_more HT.out hp1 (by rw [hO.1]; exact hpl) (by rw [← HD.out]; exact hlast) hsm.out
                rw [← HD.out, ← HD7.out, ← HY.out] at hT
                exact hT⟩
              case measure => simp [intOf]; omega
          · have hsm : Hid (4294967296 ≤ vr) := by show _ ≤ _; omega
            rw [show decide ((vr : Int) < 4294967296) = false from decide_eq_false (by omega)]
            clear hsm0
            by_cases hlast : d < 128
            · have HN : Hid (P false L = none) := P_no_hdr (by rw [HL.out, rt_great HT.out hsm.out]; rfl)
              go_upto_if 58 with fail
              rw [show decide ((4294967296 : Int) ≤ (vr : Int)) = true from decide_eq_true (by have := hsm.out; omega)]
              go_wp2
              exact told_end rfl (heap_alloc2_old w _ _) rfl (.inl ⟨HN.out, rfl, below_two w _ _⟩)
            · go_wp2
              go_round
              case rel => exact ⟨p + 1, vr, by go_num, rfl, by omega, by omega, HV.out, rt_stay HT.out hsm.out⟩
              case measure => simp [intOf]; omega
        · have HN : Hid (P false L = none) := P_no_hdr (by rw [HL.out, rt_short HT.out (by rw [hO.1]; omega)]; rfl)
          go_wp2
          exact told_end rfl (heap_alloc2_old w _ _) rfl (.inl ⟨HN.out, rfl, below_two w _ _⟩)
    · have h31' : (m : Int) < 31 := by omega
      go_wp2
      go_meet
      case rel => exact ⟨1, m, rfl, Nat.le_refl _, hn, by omega, by
        obtain ⟨hx, hm5, hcons, hcls⟩ := HX.out
        show hdr L = _
        rw [hdr_short (by rw [hO.1]; exact hn) hx (by omega), hcls, hcons, hm5], rfl⟩
  case rest =>
    obtain ⟨p, num, rfl, hp1, hpn, hnum0, hH, rfl⟩ := hcut
    have hnum : Hid (num < 4294967296) := hnum0
    clear hnum0
    by_cases hpl : p < n
    · have cp := hO.2.2.1 p hpl
      have cl := hO.2.2.2 p hpl
      obtain ⟨f, hf⟩ : ∃ f, f = L.getD p 0 := ⟨_, rfl⟩
      rw [← hf] at cp cl
      have HF : Hid (f = L.getD p 0) := hf
      clear hf
      by_cases h80 : f = 128
      · have t80 : ((f : Int) == 128) = true := by simp; omega
        cases cons with
        | false =>
          have HN : Hid (P false L = none) := P_prim hH.out (by rw [hO.1]; exact hpl) (by rw [← HF.out]; exact h80)
          go_wp2
          exact told_end rfl (heap_alloc2_old w _ _) rfl (.inl ⟨HN.out, rfl, below_two w _ _⟩)
        | true =>
          have HP : Hid (P false L = (P true (L.drop (p + 1))).map fun s => ⟨cls, num, true, p + 1, p + 1 + s.en - 2, p + 1 + s.en⟩) := P_indef hH.out (by rw [hO.1]; exact hpl) (by rw [← HF.out]; exact h80)
          obtain ⟨W, hW⟩ : ∃ W, W = (w.alloc (.cells #[.bool false, .int .u8 0, .int .u32 0, .bool false, .int .i64 0, .int .i64 0, .int .i64 0] 35)).alloc (.cells #[.bool false, .int .u8 cls, .int .u32 num, .bool true, .int .i64 0, .int .i64 0, .int .i64 0] 35) := ⟨_, rfl⟩
          have gZ : W.heap[w.heap.size]? = some (.cells #[.bool false, .int .u8 0, .int .u32 0, .bool false, .int .i64 0, .int .i64 0, .int .i64 0] 35 (0, 0)) := by rw [hW]; exact heap_alloc2_old w _ _
          have gE : W.heap[w.heap.size + 1]? = some (.cells #[.bool false, .int .u8 cls, .int .u32 num, .bool true, .int .i64 0, .int .i64 0, .int .i64 0] 35 (0, 0)) := by rw [hW]; exact heap_alloc2_new w _ _
          have gS : W.heap.size = w.heap.size + 1 + 1 := by rw [hW]; simp
          have gB : Below w.heap.size w W := by rw [hW]; exact below_two w _ _
          rw [← hW]
          have cp' : W.cell? ⟨b, o + p, none⟩ = some (.int .u8 f) := (gB.cell (p := ⟨b, o + p, none⟩) hblt).trans cp
          have kc : W.cell? ⟨w.heap.size + 1, 3, none⟩ = some (.bool true) := by rw [cell_of_row W _ 3 _ 35 (0, 0) gE]; rfl
          clear hW e31 e32 e64 e64' hl0 hn0 c0
          go_wp2
          rw [show decide (n ≤ p) = false from decide_eq_false (by omega)]
          clear t80 h80 cp cp' kc
          go_loopw [9] (fun sat wr => ∃ q : Nat, sat = .int .i64 q ∧ p + 1 ≤ q ∧ q ≤ n ∧ Hid (Rel L (p + 1) q) ∧ Below W.heap.size W wr) (fun sat _ => n - (intOf sat).toNat)
          case atStart => exact ⟨p + 1, by go_num, Nat.le_refl _, by omega, rel_start L _, Below.refl _ _⟩
          case round =>
            obtain ⟨q, rfl, h0, hqn', HR, hB⟩ := hrel
            have hBw : Below w.heap.size w wr := gB.trans (hB.mono (by omega))
            have hOw := hO.below hBw
            have hL := hO.1
            have g1Z := (hB.block w.heap.size (by omega)).trans gZ
            have g1E := (hB.block (w.heap.size + 1) (by omega)).trans gE
            have gs1 : w.heap.size + 1 + 1 ≤ wr.heap.size := by rw [← gS]; exact hB.size
            have ht : wr.there w.heap.size 0 7 := there7 rfl g1Z
            by_cases hz : q + 2 ≤ n ∧ L.getD q 0 = 0 ∧ L.getD (q + 1) 0 = 0
            · have c0 := hOw.2.2.1 q (by omega)
              have c1 := hOw.2.2.1 (q + 1) (by omega)
              rw [hz.2.1] at c0
              rw [hz.2.2] at c1
              have t1 : (q : Int) + 1 < (n : Int) := by omega
              have k0 : wr.cell? ⟨w.heap.size + 1, 0, none⟩ = some (.bool false) := by rw [cell_of_row wr _ 0 _ 35 (0, 0) g1E]; rfl
              have k1 : wr.cell? ⟨w.heap.size + 1, 1, none⟩ = some (.int .u8 cls) := by rw [cell_of_row wr _ 1 _ 35 (0, 0) g1E]; rfl
              have k2 : wr.cell? ⟨w.heap.size + 1, 2, none⟩ = some (.int .u32 num) := by rw [cell_of_row wr _ 2 _ 35 (0, 0) g1E]; rfl
              have k3 : wr.cell? ⟨w.heap.size + 1, 3, none⟩ = some (.bool true) := by rw [cell_of_row wr _ 3 _ 35 (0, 0) g1E]; rfl
              have k4 : wr.cell? ⟨w.heap.size + 1, 4, none⟩ = some (.int .i64 0) := by rw [cell_of_row wr _ 4 _ 35 (0, 0) g1E]; rfl
              have k5 : wr.cell? ⟨w.heap.size + 1, 5, none⟩ = some (.int .i64 0) := by rw [cell_of_row wr _ 5 _ 35 (0, 0) g1E]; rfl
              have k6 : wr.cell? ⟨w.heap.size + 1, 6, none⟩ = some (.int .i64 0) := by rw [cell_of_row wr _ 6 _ 35 (0, 0) g1E]; rfl
              have z0 : wr.cell? ⟨w.heap.size, 0, none⟩ = some (.bool false) := by rw [cell_of_row wr _ 0 _ 35 (0, 0) g1Z]; rfl
              have z1 : wr.cell? ⟨w.heap.size, 1, none⟩ = some (.int .u8 0) := by rw [cell_of_row wr _ 1 _ 35 (0, 0) g1Z]; rfl
              have z2 : wr.cell? ⟨w.heap.size, 2, none⟩ = some (.int .u32 0) := by rw [cell_of_row wr _ 2 _ 35 (0, 0) g1Z]; rfl
              have z3 : wr.cell? ⟨w.heap.size, 3, none⟩ = some (.bool false) := by rw [cell_of_row wr _ 3 _ 35 (0, 0) g1Z]; rfl
              have z4 : wr.cell? ⟨w.heap.size, 4, none⟩ = some (.int .i64 0) := by rw [cell_of_row wr _ 4 _ 35 (0, 0) g1Z]; rfl
              have z5 : wr.cell? ⟨w.heap.size, 5, none⟩ = some (.int .i64 0) := by rw [cell_of_row wr _ 5 _ 35 (0, 0) g1Z]; rfl
              have z6 : wr.cell? ⟨w.heap.size, 6, none⟩ = some (.int .i64 0) := by rw [cell_of_row wr _ 6 _ 35 (0, 0) g1Z]; rfl
              have fE := fun j => frozen_of_row wr (w.heap.size + 1) j _ 35 g1E
              have fZ := fun j => frozen_of_row wr w.heap.size j _ 35 g1Z
              have HS : Hid (P false L = some ⟨cls, num, true, p + 1, q, q + 2⟩) := by
                obtain ⟨s, hs, hse⟩ := rel_some HR.out (eoc_zero (by rw [hL]; exact hz))
                have := HP.out
                rw [hs] at this
                show P false L = _
                rw [this]
                simp at hse
                simp
                omega
              clear hz
              go_wp2
              refine told_range (E := [.bool true, .int .u8 cls, .int .u32 num, .bool true, .int .i64 ((p + 1 : Nat) : Int), .int .i64 q, .int .i64 ((q + 2 : Nat) : Int)]) rfl ?_ rfl (.inr ⟨_, HS.out, rfl, ?_⟩)
              · exact store_seven _ _ _ _ _ _ _ _ _ _ _ ht
              · exact hBw.trans (seven_below _ _ _ _ _ _ _ _ _ _ _)
            · by_cases hql : q < n
              · have HZ : Hid (¬ (q + 2 ≤ L.length ∧ L.getD q 0 = 0 ∧ L.getD (q + 1) 0 = 0)) := by rw [hL]; exact hz
                have hIH := IH.out (n - q) (by omega) b (o + q) (c - q) (L.drop q) wr (hOw.drop q hqn') (by omega) (by omega)
                have HI : Hid (Calls Ybaf.prog 6 #[.slice (some ⟨b, o + q, none⟩) (n - q) (c - q)] wr (Told wr (L.drop q))) := hIH
                clear hIH
                have hcq : ¬ c = q := by omega
                have c0 := hOw.2.2.1 q (by omega)
                obtain ⟨x2, hx2⟩ : ∃ x, x = L.getD q 0 := ⟨_, rfl⟩
                obtain ⟨y, hy⟩ : ∃ y, y = L.getD (q + 1) 0 := ⟨_, rfl⟩
                have c1 : q + 2 ≤ n → wr.cell? ⟨b, o + (q + 1), none⟩ = some (.int .u8 (y : Int)) := fun h => by rw [hy]; exact hOw.2.2.1 (q + 1) (by omega)
                rw [← hx2] at c0
                have hz' : ¬ (q + 2 ≤ n ∧ x2 = 0 ∧ y = 0) := by rw [hx2, hy]; exact hz
                clear hz hx2 hy
                by_cases s1 : q + 2 ≤ n
                · have c1' := c1 s1
                  clear c1
                  have t1 : (q : Int) + 1 < (n : Int) := by omega
                  by_cases s2 : x2 = 0
                  · have s3 : ((y : Int) == 0) = false := by simp; omega
                    subst s2
                    go_wp2_with fail
                    refine HI.out.mono ?_
                    rintro e w1 (⟨hnone, rfl, hb⟩ | ⟨r, hsome, rfl, hb⟩)
                    · have HN : Hid (P false L = none) := by
                        have h1 := rel_none HR.out (eoc_fail (by omega) HZ.out hnone)
                        have := HP.out
                        rw [h1] at this
                        exact this
                      clear hnone
                      rw [show Z7 = #[.bool false, .int .u8 0, .int .u32 0, .bool false, .int .i64 0, .int .i64 0, .int .i64 0] from rfl]
                      have g2Z := fun (F : Obj) => (Below.heap_alloc w1 F w.heap.size (Nat.lt_of_lt_of_le (by omega) hb.size)).trans ((hb.block w.heap.size (by omega)).trans g1Z)
                      have ht2 := fun (F : Obj) => there7 rfl (g2Z F)
                      go_wp2_with (refine wpList_store_mid rfl 35 (.tmp 2) (.tmp 122) rfl w.heap.size 0 Z7 rfl rfl (ht2 _) size35 z7_one ?_)
                      exact told_fail (ht2 _) ((hBw.trans (hb.mono hBw.size)).alloc (Nat.le_trans hBw.size hb.size) _) HN.out (fun _ _ h => h) rfl
                    · have gpos := P_pos hsome
                      have hen : r.en ≤ n - q := by have := gpos.2.1; simp at this; rw [hL] at this; exact this
                      have hen2 := gpos.1
                      have HR2 : Hid (Rel L (p + 1) (q + r.en)) := rel_next HR.out h0 (by omega) HZ.out hsome
                      clear gpos hsome
                      go_wp2
                      go_roundw
                      case rel => exact ⟨q + r.en, by go_num, by omega, by omega, HR2, (hB.trans (hb.mono hB.size)).alloc (Nat.le_trans hB.size hb.size) _⟩
                      case measure => simp [intOf]; omega
                  · have s3 : ((x2 : Int) == 0) = false := by simp; omega
                    go_wp2_with fail
                    refine HI.out.mono ?_
                    rintro e w1 (⟨hnone, rfl, hb⟩ | ⟨r, hsome, rfl, hb⟩)
                    · have HN : Hid (P false L = none) := by
                        have h1 := rel_none HR.out (eoc_fail (by omega) HZ.out hnone)
                        have := HP.out
                        rw [h1] at this
                        exact this
                      clear hnone
                      rw [show Z7 = #[.bool false, .int .u8 0, .int .u32 0, .bool false, .int .i64 0, .int .i64 0, .int .i64 0] from rfl]
                      have g2Z := fun (F : Obj) => (Below.heap_alloc w1 F w.heap.size (Nat.lt_of_lt_of_le (by omega) hb.size)).trans ((hb.block w.heap.size (by omega)).trans g1Z)
                      have ht2 := fun (F : Obj) => there7 rfl (g2Z F)
                      go_wp2_with (refine wpList_store_mid rfl 35 (.tmp 2) (.tmp 122) rfl w.heap.size 0 Z7 rfl rfl (ht2 _) size35 z7_one ?_)
                      exact told_fail (ht2 _) ((hBw.trans (hb.mono hBw.size)).alloc (Nat.le_trans hBw.size hb.size) _) HN.out (fun _ _ h => h) rfl
                    · have gpos := P_pos hsome
                      have hen : r.en ≤ n - q := by have := gpos.2.1; simp at this; rw [hL] at this; exact this
                      have hen2 := gpos.1
                      have HR2 : Hid (Rel L (p + 1) (q + r.en)) := rel_next HR.out h0 (by omega) HZ.out hsome
                      clear gpos hsome
                      go_wp2
                      go_roundw
                      case rel => exact ⟨q + r.en, by go_num, by omega, by omega, HR2, (hB.trans (hb.mono hB.size)).alloc (Nat.le_trans hB.size hb.size) _⟩
                      case measure => simp [intOf]; omega
                · clear c1
                  have t1 : ¬ (q : Int) + 1 < (n : Int) := by omega
                  go_wp2_with fail
                  refine HI.out.mono ?_
                  rintro e w1 (⟨hnone, rfl, hb⟩ | ⟨r, hsome, rfl, hb⟩)
                  · have HN : Hid (P false L = none) := by
                      have h1 := rel_none HR.out (eoc_fail (by omega) HZ.out hnone)
                      have := HP.out
                      rw [h1] at this
                      exact this
                    clear hnone
                    rw [show Z7 = #[.bool false, .int .u8 0, .int .u32 0, .bool false, .int .i64 0, .int .i64 0, .int .i64 0] from rfl]
                    have g2Z := fun (F : Obj) => (Below.heap_alloc w1 F w.heap.size (Nat.lt_of_lt_of_le (by omega) hb.size)).trans ((hb.block w.heap.size (by omega)).trans g1Z)
                    have ht2 := fun (F : Obj) => there7 rfl (g2Z F)
                    go_wp2_with (refine wpList_store_mid rfl 35 (.tmp 2) (.tmp 122) rfl w.heap.size 0 Z7 rfl rfl (ht2 _) size35 z7_one ?_)
                    exact told_fail (ht2 _) ((hBw.trans (hb.mono hBw.size)).alloc (Nat.le_trans hBw.size hb.size) _) HN.out (fun _ _ h => h) rfl
                  · have gpos := P_pos hsome
                    have hen : r.en ≤ n - q := by have := gpos.2.1; simp at this; rw [hL] at this; exact this
                    have hen2 := gpos.1
                    exact absurd hen (by omega)
              · have HN : Hid (P false L = none) := by
                  have h1 := rel_none HR.out (eoc_end (by rw [hL]; omega))
                  have := HP.out
                  rw [h1] at this
                  exact this
                clear hz
                have t1 : ¬ (q : Int) + 1 < (n : Int) := by omega
                go_wp2_with (refine wpList_store_mid rfl 35 (.tmp 2) (.tmp 114) rfl w.heap.size 0 Z7 rfl rfl ht size35 z7_one ?_)
                exact told_fail ht hBw HN.out (fun _ _ h => h) rfl
      · have t80 : ((f : Int) == 128) = false := by simp; omega
        by_cases hff : f = 255
        · have tff : ((f : Int) == 255) = true := by simp; omega
          have HN : Hid (P false L = none) := P_ff hH.out (by rw [hO.1]; exact hpl) (by rw [← HF.out]; exact hff)
          go_wp2
          exact told_end rfl (heap_alloc2_old w _ _) rfl (.inl ⟨HN.out, rfl, below_two w _ _⟩)
        · have tff : ((f : Int) == 255) = false := by simp; omega
          have HP : Hid (P false L = defin L cls num cons f (p + 1)) := by
            have := P_def hH.out (by rw [hO.1]; exact hpl) (by rw [← HF.out]; exact h80) (by rw [← HF.out]; exact hff)
            rw [← HF.out] at this
            exact this
          go_upto_if 131 with fail
          go_cut [5, 11] (fun sat sv wc => ∃ q v : Nat, sat = .int .i64 q ∧ sv = .int .u64 v ∧ p < q ∧ q ≤ n ∧ v < 18446744073709551616 ∧ Hid (P false L = if v ≤ n - q then some ⟨cls, num, cons, q, q + v, q + v⟩ else none) ∧
            wc = (w.alloc (.cells #[.bool false, .int .u8 0, .int .u32 0, .bool false, .int .i64 0, .int .i64 0, .int .i64 0] 35)).alloc (.cells #[.bool false, .int .u8 cls, .int .u32 num, .bool cons, .int .i64 0, .int .i64 0, .int .i64 0] 35))
          case first =>
            by_cases hlow : f < 128
            · have tl : (f : Int) < 128 := by omega
              go_wp2
              go_meet
              case rel => exact ⟨p + 1, f, by go_num, rfl, by omega, by omega, by omega, by
                have := HP.out
                rw [def_low hlow, hO.1] at this
                exact this, rfl⟩
            · have tl : ¬ (f : Int) < 128 := by omega
              obtain ⟨nd, hnd⟩ : ∃ nd, nd = f - 128 := ⟨_, rfl⟩
              have e7 : (f : Int) - 128 = (nd : Int) := by omega
              have hnd1 : nd ≤ 126 := by omega
              have HND : Hid (nd = f - 128) := hnd
              clear hnd
              by_cases hsh : n < p + 1 + nd
              · have HN : Hid (P false L = none) := by
                  have := HP.out
                  rw [def_short hlow (by rw [hO.1, ← HND.out]; omega)] at this
                  exact this
                have tsh : (n : Int) - ((p : Int) + 1) < (nd : Int) := by omega
                go_wp2
                exact told_end rfl (heap_alloc2_old w _ _) rfl (.inl ⟨HN.out, rfl, below_two w _ _⟩)
              · have tsh : ¬ (n : Int) - ((p : Int) + 1) < (nd : Int) := by omega
                go_wp2
                go_loop [13] (fun sk => ∃ i : Nat, sk = .int .i64 i ∧ p + 1 ≤ i ∧ i ≤ p + 1 + nd ∧ Hid (Zs L (p + 1) i)) (fun sk => p + 1 + nd - (intOf sk).toNat)
                case atStart => exact ⟨p + 1, by go_num, Nat.le_refl _, by omega, zs_start L _⟩
                case round =>
                  obtain ⟨i, rfl, hi1, hi2, HZ⟩ := hrel
                  by_cases hil : i < p + 1 + nd
                  · have ci := hO.2.2.1 i (by omega)
                    have cil := hO.2.2.2 i (by omega)
                    obtain ⟨d, hd⟩ : ∃ d, d = L.getD i 0 := ⟨_, rfl⟩
                    rw [← hd] at ci cil
                    have HD : Hid (d = L.getD i 0) := hd
                    clear hd
                    have tl : (i : Int) < (p : Int) + 1 + (nd : Int) := by omega
                    by_cases hd0 : d = 0
                    · have td : ((d : Int) == 0) = true := by simp; omega
                      go_wp2
                      go_round
                      case rel => exact ⟨i + 1, by go_num, by omega, by omega, zs_step HZ.out (by rw [← HD.out]; exact hd0)⟩
                      case measure => simp [intOf]; omega
                    · have td : ((d : Int) == 0) = false := by simp; omega
                      by_cases h8 : i + 8 < p + 1 + nd
                      · have HN : Hid (P false L = none) := by
                          have h2 := be_eight (L := L) (q := p + 1) (i := i) (nd := nd) hi1 (by rw [hO.1]; omega) (by rw [← HD.out]; exact hd0) h8
                          have := HP.out
                          rw [def_high hlow (by rw [hO.1, ← HND.out]; omega) rfl, ← HND.out, if_neg (by rw [hO.1]; omega)] at this
                          exact this
                        have t8 : (8 : Int) < (p : Int) + 1 + (nd : Int) - (i : Int) := by omega
                        go_wp2
                        exact told_end rfl (heap_alloc2_old w _ _) rfl (.inl ⟨HN.out, rfl, below_two w _ _⟩)
                      · have HA : Hid (Acc L (p + 1) (p + 1 + nd) i 0) := acc_start hi1 (by rw [hO.1]; omega) HZ.out (by omega)
                        have t8 : ¬ (8 : Int) < (p : Int) + 1 + (nd : Int) - (i : Int) := by omega
                        go_wp2
                        go_loop [11, 13] (fun sv sk => ∃ j v : Nat, sk = .int .i64 j ∧ sv = .int .u64 v ∧ p + 1 ≤ j ∧ j ≤ p + 1 + nd ∧ Hid (Acc L (p + 1) (p + 1 + nd) j v)) (fun _ sk => p + 1 + nd - (intOf sk).toNat)
                        case atStart => exact ⟨i, 0, rfl, rfl, hi1, hi2, HA⟩
                        case round =>
                          obtain ⟨j, v, rfl, rfl, hj1, hj2, HV⟩ := hrel
                          by_cases hjl : j < p + 1 + nd
                          · have cj := hO.2.2.1 j (by omega)
                            have cjl := hO.2.2.2 j (by omega)
                            obtain ⟨g, hg⟩ : ∃ g, g = L.getD j 0 := ⟨_, rfl⟩
                            rw [← hg] at cj cjl
                            have HG : Hid (g = L.getD j 0) := hg
                            clear hg
                            have tj : (j : Int) < (p : Int) + 1 + (nd : Int) := by omega
                            have hvl := acc_lt HV.out hjl
                            have ej := join8 v g hvl cjl
                            go_wp2
                            go_round
                            case rel => exact ⟨j + 1, v * 256 + g, by go_num, by go_num, by omega, by omega, acc_step HV.out hj1 hjl (by rw [hO.1]; omega) HG.out cjl⟩
                            case measure => simp [intOf]; omega
                          · have ek : j = p + 1 + nd := by omega
                            rw [ek] at HV
                            have tj : ¬ (j : Int) < (p : Int) + 1 + (nd : Int) := by omega
                            clear ek
                            have hE := acc_end HV.out
                            have HE : Hid (v = be ((L.drop (p + 1)).take nd) 0 ∧ v < 18446744073709551616) := hE
                            clear hE
                            go_wp2
                            go_meet
                            case rel => exact ⟨p + 1 + nd, v, by go_num, rfl, by omega, by omega, HE.out.2, by
                              have := HP.out
                              rw [def_high (v := v) hlow (by rw [hO.1, ← HND.out]; omega) (by rw [← HND.out]; exact HE.out.1), ← HND.out, hO.1] at this
                              exact this, by first | rfl | trivial⟩
                  · have HA : Hid (Acc L (p + 1) (p + 1 + nd) i 0) := acc_start hi1 (by rw [hO.1]; omega) HZ.out (by omega)
                    have tl : ¬ (i : Int) < (p : Int) + 1 + (nd : Int) := by omega
                    have t8 : ¬ (8 : Int) < (p : Int) + 1 + (nd : Int) - (i : Int) := by omega
                    go_wp2
                    go_loop [11, 13] (fun sv sk => ∃ j v : Nat, sk = .int .i64 j ∧ sv = .int .u64 v ∧ p + 1 ≤ j ∧ j ≤ p + 1 + nd ∧ Hid (Acc L (p + 1) (p + 1 + nd) j v)) (fun _ sk => p + 1 + nd - (intOf sk).toNat)
                    case atStart => exact ⟨i, 0, rfl, rfl, hi1, hi2, HA⟩
                    case round =>
                      obtain ⟨j, v, rfl, rfl, hj1, hj2, HV⟩ := hrel
                      by_cases hjl : j < p + 1 + nd
                      · have cj := hO.2.2.1 j (by omega)
                        have cjl := hO.2.2.2 j (by omega)
                        obtain ⟨g, hg⟩ : ∃ g, g = L.getD j 0 := ⟨_, rfl⟩
                        rw [← hg] at cj cjl
                        have HG : Hid (g = L.getD j 0) := hg
                        clear hg
                        have tj : (j : Int) < (p : Int) + 1 + (nd : Int) := by omega
                        have hvl := acc_lt HV.out hjl
                        have ej := join8 v g hvl cjl
                        go_wp2
                        go_round
                        case rel => exact ⟨j + 1, v * 256 + g, by go_num, by go_num, by omega, by omega, acc_step HV.out hj1 hjl (by rw [hO.1]; omega) HG.out cjl⟩
                        case measure => simp [intOf]; omega
                      · have ek : j = p + 1 + nd := by omega
                        rw [ek] at HV
                        have tj : ¬ (j : Int) < (p : Int) + 1 + (nd : Int) := by omega
                        clear ek
                        have hE := acc_end HV.out
                        have HE : Hid (v = be ((L.drop (p + 1)).take nd) 0 ∧ v < 18446744073709551616) := hE
                        clear hE
                        go_wp2
                        go_meet
                        case rel => exact ⟨p + 1 + nd, v, by go_num, rfl, by omega, by omega, HE.out.2, by
                          have := HP.out
                          rw [def_high (v := v) hlow (by rw [hO.1, ← HND.out]; omega) (by rw [← HND.out]; exact HE.out.1), ← HND.out, hO.1] at this
                          exact this, by first | rfl | trivial⟩
          case rest =>
            obtain ⟨q, v, rfl, rfl, hpq, hqn, hvb, HR, rfl⟩ := hcut
            by_cases hfit : v ≤ n - q
            · have tf : ¬ (n : Int) - (q : Int) < (v : Int) := by omega
              go_wp2
              exact told_end rfl (heap_alloc2_old w _ _) rfl (.inr ⟨_, by rw [HR.out, if_pos hfit], rfl, below_two w _ _⟩)
            · have HN : Hid (P false L = none) := by
                have := HR.out
                rw [if_neg hfit] at this
                exact this
              have tf : (n : Int) - (q : Int) < (v : Int) := by omega
              go_wp2
              exact told_end rfl (heap_alloc2_old w _ _) rfl (.inl ⟨HN.out, rfl, below_two w _ _⟩)
    · have HN : Hid (P false L = none) := P_no_len hH.out (by rw [hO.1]; omega)
      have tpl : (n : Int) ≤ (p : Int) := by omega
      go_wp2
      exact told_end rfl (heap_alloc2_old w _ _) rfl (.inl ⟨HN.out, rfl, below_two w _ _⟩)

/-- THE MODEL, at every length. -/
theorem parse_all : ∀ N : Nat, ShorterP N
  | 0 => fun m hm => by omega
  | N + 1 => fun m hm b o c L w hO hc hmm => by
    by_cases hN : m < N
    · exact parse_all N m hN b o c L w hO hc hmm
    · obtain rfl : m = N := by omega
      by_cases h0 : m = 0
      · subst h0
        exact parse_empty (some ⟨b, o, none⟩) c L w hO.1
      · exact parse_main b o m c L w hO (by omega) hc hmm (parse_all m)

theorem parse_any (b o n c : Nat) (L : List Nat) (w : World) (hO : Oct w b o n L) (hc : n ≤ c) (hm : n ≤ 1048576) : Calls Ybaf.prog 6 #[.slice (some ⟨b, o, none⟩) n c] w (Told w L) :=
  parse_all (n + 1) n (Nat.lt_succ_self _) b o c L w hO hc hm
end Go.Proofs.YbulkdvskFmt
