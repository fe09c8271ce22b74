/-
  THE LAW's OWN WALK (function 3).
-/
import Derived.Test.YbulkdvskFmtEqual
namespace Go.Proofs.YbulkdvskFmt
open Go.RowKit

theorem info5 : (Ybaf.prog.info? 5).map (fun i => (i.zero, i.size, i.bytes)) = some (some (.int .u8 0), 1, 1) := by kernel_rfl
theorem size5 : (Ybaf.prog.info? 5).map (·.size) = some 1 := by kernel_rfl

theorem info_of {P : Program} {e : TypeId} {z : Value} {s b : Nat} (h : (P.info? e).map (fun i => (i.zero, i.size, i.bytes)) = some (some z, s, b)) : ∃ i, P.info? e = some i ∧ i.zero = some z ∧ i.size = s ∧ i.bytes = b := by
  obtain ⟨i, hi, hzz⟩ := Option.map_eq_some_iff.1 h
  simp only [Prod.mk.injEq] at hzz
  exact ⟨i, hi, hzz.1, hzz.2.1, hzz.2.2⟩

/-- The octets as cells. -/
def octs (L : List Nat) : List Value := L.map fun x : Nat => .int .u8 (x : Int)
theorem octs_get {L : List Nat} {j : Nat} {v : Value} (h : (octs L)[j]? = some v) : j < L.length ∧ v = .int .u8 ((L.getD j 0 : Nat) : Int) := by
  have hj : j < L.length := by
    rcases Nat.lt_or_ge j L.length with h1 | h1
    · exact h1
    · rw [List.getElem?_eq_none (by simpa [octs] using h1)] at h
      cases h
  refine ⟨hj, ?_⟩
  simp [octs, List.getElem?_eq_getElem hj] at h
  simp [List.getElem?_eq_getElem hj, h]

theorem made_size (z : Value) (n : Nat) : (madeCells #[z] n).size = n := by
  obtain ⟨c, hc, hs, _⟩ := World.rowIs_made default z n 0
  have := heap_alloc_new (default : World) (.cells (madeCells #[z] n) 0)
  rw [hc] at this
  cases this
  exact hs

/-- The row of the copy. -/
theorem row_of_block {W : World} {g n : Nat} {L : List Nat} (hl : L.length = n) (h256 : ∀ t, t < n → L.getD t 0 < 256) (hg : W.heap[g]? = some (.cells (octs L).toArray 5 (0, 0))) : Row W (some ⟨g, 0, none⟩) n L :=
  ⟨hl, h256, fun _ => ⟨g, 0, rfl, hl, (Array.getElem?_eq_some_iff.1 hg).1, fun t ht => by
    have : t < L.length := by omega
    rw [Nat.zero_add, cell_of_row W g t _ 5 (0, 0) hg]
    simp [octs, List.getElem?_eq_getElem this], h256⟩⟩

theorem law_long (a : Option Addr) (n c : Nat) (w : World) (h : 1048576 < n) : Calls Ybaf.prog 3 #[.slice a n c] w fun e w' => e = .returned (.bool true) ∧ Below w.heap.size w w' := by
  have h' : (1048576 : Int) < (n : Int) := by omega
  go_enter Ybaf.func3, Ybaf.ntmps3
  go_wp2
  go_ret
  exact ⟨rfl, Below.refl _ _⟩

theorem Oct.bt {w : World} {b o n : Nat} {L : List Nat} {p : Option Addr} (h : Oct w b o n L) (q k : Nat) (hqk : q + k ≤ n) (hp : 0 < k → p = some ⟨b, o + q, none⟩) : Bt w p k ((L.drop q).take k) :=
  ⟨by have := h.1; simp; omega, fun h0 => ⟨b, o + q, hp h0, fun t ht => by
    rw [Nat.add_assoc, h.2.2.1 (q + t) (by omega)]
    simp [List.getD, ht]⟩⟩

theorem Row.oct {w : World} {b o n : Nat} {L : List Nat} (h : Row w (some ⟨b, o, none⟩) n L) (hn : 0 < n) : Oct w b o n L := by
  obtain ⟨b', o', e, hO⟩ := h.2.2 hn
  cases e
  exact hO

/-- What Next found, part by part. -/
theorem found_parts {w w' : World} {b o n : Nat} {L : List Nat} {r : Res} {e : Ending} (h : Found w b o n r e w') (hr : P false L = some r) (hL : L.length = n) :
    ∃ (cls num cs k ce en m : Nat) (cons : Bool) (a1 : Option Addr) (a3 : Addr) (c1 c2 c3 : Nat), r = ⟨cls, num, cons, cs, ce, en⟩ ∧ ce = cs + k ∧ n = en + m ∧ 2 ≤ en ∧ ce ≤ en ∧
      e = .returned (.tuple #[.agg #[.int .u8 cls, .int .u32 num, .bool cons, .slice a1 k c1, .slice (some ⟨b, o, none⟩) en c2], .slice (some a3) m c3, .nilIface]) ∧
      (0 < k → a1 = some ⟨b, o + cs, none⟩) ∧ (0 < m → a3 = ⟨b, o + en, none⟩) ∧ Below w.heap.size w w' := by
  obtain ⟨g1, g2, g3, g4⟩ := P_pos hr
  obtain ⟨a1, a2, a3, c1, c2, c3, rfl, h1, rfl, h3, hb⟩ := h
  obtain ⟨cls, num, cons, cs, ce, en⟩ := r
  simp only at g1 g2 g3 g4 h1 h3
  obtain ⟨k, rfl⟩ : ∃ k, ce = cs + k := ⟨ce - cs, by omega⟩
  obtain ⟨m, rfl⟩ : ∃ m, n = en + m := ⟨n - en, by omega⟩
  exact ⟨cls, num, cs, k, cs + k, en, m, cons, a1, a3, c1, c2, c3, rfl, rfl, rfl, g1, g4, by simp only [Nat.add_sub_cancel_left], by simpa only [Nat.add_sub_cancel_left] using h1, by simpa only [Nat.add_sub_cancel_left] using h3, hb⟩

theorem wrap_i64 (k : Nat) (h : k ≤ 1048576) : IntKind.i64.wrap (k : Int) = (k : Int) := by
  simp [IntKind.wrap, IntKind.bits, IntKind.signed]; omega

set_option maxHeartbeats 2000000 in
set_option maxRecDepth 100000 in
theorem law_short (a : Option Addr) (n c : Nat) (L : List Nat) (w : World) (hR : Row w a n L) (hc : n ≤ c) (hm : n ≤ 1048576) (hnil : a = none → n = 0 ∧ c = 0) :
    Calls Ybaf.prog 3 #[.slice a n c] w fun e w' => e = .returned (.bool true) ∧ Below w.heap.size w w' := by
  have q22 := fun (w : World) (a : Option Addr) (n c n' c' : Nat) => Lib.run_eql_slice_nil (P := Ybaf.prog) w 22 5 a n c n' c' Ybaf.underlying22
  obtain ⟨i0, hi, hz0, hz1, hz2⟩ := info_of info5
  have hm' : ¬ (1048576 : Int) < (n : Int) := by omega
  have HRR : Hid (Row w a n L) := hR
  clear hR
  go_enter Ybaf.func3, Ybaf.ntmps3
  go_upto_if 12 with fail
  go_cut [3] (fun sc wc => ∃ (ac : Option Addr), sc = .slice ac n n ∧ Hid (Row wc ac n L) ∧ (0 < n → ∃ g, ac = some ⟨g, 0, none⟩) ∧ Below w.heap.size w wc)
  case first =>
    cases a with
    | none =>
      obtain ⟨rfl, rfl⟩ := hnil rfl
      go_wp2
      go_meet
      case rel => exact ⟨none, rfl, ⟨HRR.out.1, fun t ht => by omega, fun h => by omega⟩, fun h => by omega, Below.refl _ _⟩
    | some ad =>
      obtain ⟨W, hW⟩ : ∃ W, W = w.alloc (.cells (madeCells #[.int .u8 0] n) 5) := ⟨_, rfl⟩
      have hWs : W.heap[w.heap.size]? = some (.cells (madeCells #[.int .u8 0] n).toList.toArray 5 (0, 0)) := by rw [hW]; exact heap_alloc_new w _
      have hWB : Below w.heap.size w W := by rw [hW]; exact (Below.refl _ _).alloc (Nat.le_refl _) _
      have hRW := HRR.out.below hWB
      have hmk := run_make_row' (P := Ybaf.prog) 22 5 (.int .u8 0) 1 Ybaf.underlying22 info5 rfl .i64 .i64 n (by omega) (by omega) w
      rw [← hW] at hmk
      clear hW
      go_wp2_with (refine wpList_copy_splice rfl (.tmp 16) (.tmp 17) 22 22 rfl 5 Ybaf.underlying22 size5 _ _ n n n c rfl rfl w.heap.size 0 (madeCells #[.int .u8 0] n).toList 5 hWs (octs L) ?c1 ?c2 ?c3 ?c4 w.heap.size w hWB (Nat.le_refl _) ?_; rotate_left 4; intro w2 hg2 hB2)
      case c1 => simp [octs, HRR.out.1]
      case c2 =>
        intro h0
        obtain ⟨b, o, e, hO⟩ := hRW.2.2 (by simpa [octs, HRR.out.1] using h0)
        cases e
        exact fun j v hv => by
          obtain ⟨hj, rfl⟩ := octs_get hv
          rw [Addr.add_lit]
          exact hO.2.2.1 j (by rw [← HRR.out.1]; exact hj)
      case c3 => rw [made_size]; simp [octs, HRR.out.1]
      case c4 => intro v hv; simp [octs] at hv; obtain ⟨x, _, rfl⟩ := hv; rfl
      go_meet
      case rel => exact ⟨_, rfl, row_of_block HRR.out.1 HRR.out.2.1 (by
        have := hg2.out
        rw [show splice (madeCells #[.int .u8 0] n).toList 0 (octs L) = octs L by
          have e1 : (madeCells #[.int .u8 0] n).toList.drop (octs L).length = [] := List.drop_eq_nil_of_le (by rw [Array.length_toList, made_size]; simp [octs, HRR.out.1])
          simp [splice, e1]] at this
        exact this), fun _ => ⟨_, rfl⟩, hB2⟩
  case rest =>
    obtain ⟨ac, rfl, HC, hac, hB0⟩ := hcut
    have HA : Hid (Row wc a n L) := HRR.out.below hB0
    go_wp2_with fail
    refine (next_gen a n c L wc HA.out hc hm).mono ?_
    rintro e w1 (⟨hnone, v, rfl, hv, hb⟩ | ⟨r, b, o, hsome, rfl, hF⟩)
    · have HN : Hid (P false L = none) := hnone
      clear hnone
      rw [show Z5 = #[.int .u8 0, .int .u32 0, .bool false, .slice none 0 0, .slice none 0 0] from rfl]
      obtain ⟨W1, hW1⟩ : ∃ W1, W1 = w1.alloc (.cells #[.int .u8 0, .int .u32 0, .bool false, .slice none 0 0, .slice none 0 0] 28) := ⟨_, rfl⟩
      have gE : W1.heap[w1.heap.size]? = some (.cells #[.int .u8 0, .int .u32 0, .bool false, .slice none 0 0, .slice none 0 0] 28 (0, 0)) := by rw [hW1]; exact heap_alloc_new w1 _
      have gS : W1.heap.size = w1.heap.size + 1 := by rw [hW1]; simp
      have gB : Below wc.heap.size wc W1 := by rw [hW1]; exact hb.alloc hb.size _
      have HA1 : Hid (Bt W1 a n L) := (HA.out.below gB).bt
      have HC1 : Hid (Row W1 ac n L) := HC.out.below gB
      obtain ⟨t, bb, s0, ht, rfl, hs⟩ := hv
      have hEq := equal_same a ac n c n L W1 HA1.out HC1.out.bt
      have hPa := parse_gen ac n n L W1 HC1.out (Nat.le_refl _) hm
      have HEq : Hid (Calls Ybaf.prog 5 #[.slice a n c, .slice ac n n] W1 fun e w' => e = .returned (.bool true) ∧ w' = W1) := hEq
      have HPa : Hid (Calls Ybaf.prog 6 #[.slice ac n n] W1 (Told W1 L)) := hPa
      clear hEq hPa
      go_wp2_with fail
      rw [← hW1]
      clear hW1
      refine HEq.out.mono ?_
      rintro e w2 ⟨rfl, rfl⟩
      go_wp2_with fail
      refine HPa.out.mono ?_
      rintro e w3 (⟨hn3, rfl, hb3⟩ | ⟨r, hsome, _⟩)
      · rw [show Z7 = #[.bool false, .int .u8 0, .int .u32 0, .bool false, .int .i64 0, .int .i64 0, .int .i64 0] from rfl]
        have gE3 := (hb3.block w1.heap.size (by omega)).trans gE
        have glt : w1.heap.size < w3.heap.size := by have := hb3.size; omega
        have k0 : w3.cell? ⟨w1.heap.size, 0, none⟩ = some (.int .u8 0) := by rw [cell_of_row w3 _ 0 _ 28 (0, 0) gE3]; rfl
        have k1 : w3.cell? ⟨w1.heap.size, 1, none⟩ = some (.int .u32 0) := by rw [cell_of_row w3 _ 1 _ 28 (0, 0) gE3]; rfl
        have k2 : w3.cell? ⟨w1.heap.size, 2, none⟩ = some (.bool false) := by rw [cell_of_row w3 _ 2 _ 28 (0, 0) gE3]; rfl
        have k3 : w3.cell? ⟨w1.heap.size, 3, none⟩ = some (.slice none 0 0) := by rw [cell_of_row w3 _ 3 _ 28 (0, 0) gE3]; rfl
        have k4 : w3.cell? ⟨w1.heap.size, 4, none⟩ = some (.slice none 0 0) := by rw [cell_of_row w3 _ 4 _ 28 (0, 0) gE3]; rfl
        have hBw : Below w.heap.size w w3 := (hB0.trans (gB.mono hB0.size)).trans (hb3.mono (by have := gB.size; have := hB0.size; omega))
        go_wp2
        go_ret
        exact ⟨by simp, hBw.alloc hBw.size _⟩
      · rw [HN.out] at hsome
        cases hsome
    · obtain ⟨cls, num, cs, k, ce, en, m, cons, a1, a3, c1, c2, c3, rfl, hce, hnm, hen2, hkn, rfl, ha1, ha3, hb⟩ := found_parts hF hsome HRR.out.1
      clear hF
      have HS : Hid (P false L = some ⟨cls, num, cons, cs, ce, en⟩) := hsome
      clear hsome
      obtain ⟨g, rfl⟩ := hac (by omega)
      have i1 : (ce : Int) - (cs : Int) = (k : Int) := by omega
      have i3 : ce - cs = k := by omega
      have i4 : n - en = m := by omega
      have hcc : cs ≤ ce := by omega
      have HCE : Hid (ce = cs + k) := hce
      clear hce
      have i2 : (n : Int) - (en : Int) = (m : Int) := by omega
      have hen : en ≤ n := by omega
      have HNM : Hid (n = en + m) := hnm
      clear hnm
      obtain ⟨W1, hW1⟩ : ∃ W1, W1 = w1.alloc (.cells #[.int .u8 cls, .int .u32 num, .bool cons, .slice a1 k c1, .slice (some ⟨b, o, none⟩) en c2] 28) := ⟨_, rfl⟩
      have gE : W1.heap[w1.heap.size]? = some (.cells #[.int .u8 cls, .int .u32 num, .bool cons, .slice a1 k c1, .slice (some ⟨b, o, none⟩) en c2] 28 (0, 0)) := by rw [hW1]; exact heap_alloc_new w1 _
      have gS : W1.heap.size = w1.heap.size + 1 := by rw [hW1]; simp
      have gB : Below wc.heap.size wc W1 := by rw [hW1]; exact hb.alloc hb.size _
      have HA1 : Hid (Row W1 (some ⟨b, o, none⟩) n L) := HA.out.below gB
      have HC1 : Hid (Row W1 (some ⟨g, 0, none⟩) n L) := HC.out.below gB
      have hEq := equal_same (some ⟨b, o, none⟩) (some ⟨g, 0, none⟩) n c n L W1 HA1.out.bt HC1.out.bt
      have hPa := parse_gen (some ⟨g, 0, none⟩) n n L W1 HC1.out (Nat.le_refl _) hm
      have HEq : Hid (Calls Ybaf.prog 5 #[.slice (some ⟨b, o, none⟩) n c, .slice (some ⟨g, 0, none⟩) n n] W1 fun e w' => e = .returned (.bool true) ∧ w' = W1) := hEq
      have HPa : Hid (Calls Ybaf.prog 6 #[.slice (some ⟨g, 0, none⟩) n n] W1 (Told W1 L)) := hPa
      clear hEq hPa
      go_wp2_with fail
      rw [← hW1]
      clear hW1
      refine HEq.out.mono ?_
      rintro e w2 ⟨rfl, rfl⟩
      go_wp2_with fail
      refine HPa.out.mono ?_
      rintro e w3 (⟨hn3, _⟩ | ⟨r, hr3, rfl, hb3⟩)
      · rw [HS.out] at hn3
        cases hn3
      · rw [HS.out] at hr3
        cases hr3
        have gE3 := (hb3.block w1.heap.size (by omega)).trans gE
        have glt : w1.heap.size < w3.heap.size := by have := hb3.size; omega
        have k0 : w3.cell? ⟨w1.heap.size, 0, none⟩ = some (.int .u8 cls) := by rw [cell_of_row w3 _ 0 _ 28 (0, 0) gE3]; rfl
        have k1 : w3.cell? ⟨w1.heap.size, 1, none⟩ = some (.int .u32 num) := by rw [cell_of_row w3 _ 1 _ 28 (0, 0) gE3]; rfl
        have k2 : w3.cell? ⟨w1.heap.size, 2, none⟩ = some (.bool cons) := by rw [cell_of_row w3 _ 2 _ 28 (0, 0) gE3]; rfl
        have k3 : w3.cell? ⟨w1.heap.size, 3, none⟩ = some (.slice a1 k c1) := by rw [cell_of_row w3 _ 3 _ 28 (0, 0) gE3]; rfl
        have k4 : w3.cell? ⟨w1.heap.size, 4, none⟩ = some (.slice (some ⟨b, o, none⟩) en c2) := by rw [cell_of_row w3 _ 4 _ 28 (0, 0) gE3]; rfl
        have hB1 : Below w.heap.size w w2 := hB0.trans (gB.mono hB0.size)
        have hBw : Below w.heap.size w w3 := hB1.trans (hb3.mono hB1.size)
        obtain ⟨W3, hW3⟩ : ∃ W3, W3 = w3.alloc (.cells #[.bool true, .int .u8 cls, .int .u32 num, .bool cons, .int .i64 cs, .int .i64 ce, .int .i64 en] 35) := ⟨_, rfl⟩
        have gM : W3.heap[w3.heap.size]? = some (.cells #[.bool true, .int .u8 cls, .int .u32 num, .bool cons, .int .i64 cs, .int .i64 ce, .int .i64 en] 35 (0, 0)) := by rw [hW3]; exact heap_alloc_new w3 _
        have gB3 : Below w3.heap.size w3 W3 := by rw [hW3]; exact (Below.refl _ _).alloc (Nat.le_refl _) _
        have hBW : Below w.heap.size w W3 := hBw.trans (gB3.mono hBw.size)
        have HA3 : Hid (Oct W3 b o n L) := ((HA1.out.below hb3).below gB3).oct (by omega)
        have HC3 : Hid (Oct W3 g 0 n L) := ((HC1.out.below hb3).below gB3).oct (by omega)
        have m4 : W3.cell? ⟨w3.heap.size, 4, none⟩ = some (.int .i64 cs) := by rw [cell_of_row W3 _ 4 _ 35 (0, 0) gM]; rfl
        have m5 : W3.cell? ⟨w3.heap.size, 5, none⟩ = some (.int .i64 ce) := by rw [cell_of_row W3 _ 5 _ 35 (0, 0) gM]; rfl
        have m6 : W3.cell? ⟨w3.heap.size, 6, none⟩ = some (.int .i64 en) := by rw [cell_of_row W3 _ 6 _ 35 (0, 0) gM]; rfl
        have k3' : W3.cell? ⟨w1.heap.size, 3, none⟩ = some (.slice a1 k c1) := (gB3.cell (p := ⟨w1.heap.size, 3, none⟩) glt).trans k3
        have k4' : W3.cell? ⟨w1.heap.size, 4, none⟩ = some (.slice (some ⟨b, o, none⟩) en c2) := (gB3.cell (p := ⟨w1.heap.size, 4, none⟩) glt).trans k4
        have HB1 : Hid (Bt W3 a1 k ((L.drop cs).take k)) := HA3.out.bt cs k (by omega) ha1
        have HB2 : Hid (Bt W3 (some ⟨b, o, none⟩) en ((L.drop 0).take en)) := HA3.out.bt 0 en (by omega) (fun _ => rfl)
        have HB3 : Hid (Bt W3 (some a3) m ((L.drop en).take m)) := HA3.out.bt en m (by have := HNM.out; omega) (fun h => by rw [ha3 h])
        have HC2 : Hid (Bt W3 (some ⟨g, 0, none⟩) en ((L.drop 0).take en)) := HC3.out.bt 0 en (by omega) (fun _ => rfl)
        go_wp2_with fail
        rw [← hW3]
        clear hW3 k0 k1 k2 k3 k4 gE3 gE
        have w0k : IntKind.i64.wrap (k : Int) = (k : Int) := wrap_i64 k (by omega)
        have w1k : ((k : Int) != IntKind.i64.wrap ((ce : Int) - (cs : Int))) = false := by
          rw [i1, w0k]
          simp
        have w3k : ((k : Int) != (k : Int)) = false := by simp
        have w2k : ((en : Int) != (en : Int)) = false := by simp
        by_cases hen' : en = n
        · have hm0 : m = 0 := by have := HNM.out; omega
          subst hm0
          subst hen'
          clear i4 i2
          by_cases hcs : cs = en
          · have hk0 : k = 0 := by omega
            have hce : ce = en := by omega
            subst hk0
            subst hce
            subst hcs
            clear i1 i3
            have HC1' : Hid (Bt W3 (some ⟨g, 0, none⟩) 0 ((L.drop cs).take 0)) := Bt.none (by simp)
            go_quiet (first | (go_at_call 5; refine Calls.quiet_of_same (equal_same a1 (some ⟨g, 0, none⟩) 0 c1 0 _ _ (HB1.out.drewN _) (HC1'.out.drewN _))))
            go_wp2_with fail
            obtain ⟨W4, hW4⟩ : ∃ W4, W4 = W3.drewN nq := ⟨_, rfl⟩
            have k4'' : W4.cell? ⟨w1.heap.size, 4, none⟩ = some (.slice (some ⟨b, o, none⟩) cs c2) := by rw [hW4]; exact k4'
            have m6' : W4.cell? ⟨w3.heap.size, 6, none⟩ = some (.int .i64 cs) := by rw [hW4]; exact m6
            have HB2' : Hid (Bt W4 (some ⟨b, o, none⟩) cs ((L.drop 0).take cs)) := by rw [hW4]; exact HB2
            have HC2' : Hid (Bt W4 (some ⟨g, 0, none⟩) cs ((L.drop 0).take cs)) := by rw [hW4]; exact HC2
            have HB4 : Hid (Bt W4 (some a3) 0 ((L.drop cs).take 0)) := by rw [hW4]; exact HB3
            have HC4 : Hid (Bt W4 (some ⟨g, 0, none⟩) 0 ((L.drop cs).take 0)) := Bt.none (by simp)
            have hBW4 : Below w.heap.size w W4 := by rw [hW4]; exact below_drewN hBW _
            rw [← hW4]
            clear hW4 k3' k4' m4 m5 m6
            go_quiet (first | (go_at_call 5; refine Calls.quiet_of_same (equal_same (some ⟨b, o, none⟩) (some ⟨g, 0, none⟩) cs c2 cs _ _ (HB2'.out.drewN _) (HC2'.out.drewN _))))
            go_wp2_with fail
            refine (equal_same (some a3) (some ⟨g, 0, none⟩) 0 c3 0 _ _ (HB4.out.drewN _) (HC4.out.drewN _)).mono ?_
            rintro e w4 ⟨rfl, rfl⟩
            go_wp2
            go_ret
            exact ⟨by simp, below_drewN hBW4 _⟩
          · have hcs' : ¬ en = cs := fun h => hcs h.symm
            have HC1' : Hid (Bt W3 (some ⟨g, cs, none⟩) k ((L.drop cs).take k)) := HC3.out.bt cs k (by omega) (fun _ => by rw [Nat.zero_add])
            go_quiet (first | (go_at_call 5; refine Calls.quiet_of_same (equal_same _ _ _ _ _ _ _ (HB1.out.drewN _) (HC1'.out.drewN _))))
            go_wp2_with fail
            obtain ⟨W4, hW4⟩ : ∃ W4, W4 = W3.drewN nq := ⟨_, rfl⟩
            have k4'' : W4.cell? ⟨w1.heap.size, 4, none⟩ = some (.slice (some ⟨b, o, none⟩) en c2) := by rw [hW4]; exact k4'
            have m6' : W4.cell? ⟨w3.heap.size, 6, none⟩ = some (.int .i64 en) := by rw [hW4]; exact m6
            have HB2' : Hid (Bt W4 (some ⟨b, o, none⟩) en ((L.drop 0).take en)) := by rw [hW4]; exact HB2
            have HC2' : Hid (Bt W4 (some ⟨g, 0, none⟩) en ((L.drop 0).take en)) := by rw [hW4]; exact HC2
            have HB4 : Hid (Bt W4 (some a3) 0 ((L.drop en).take 0)) := by rw [hW4]; exact HB3
            have HC4 : Hid (Bt W4 (some ⟨g, 0, none⟩) 0 ((L.drop en).take 0)) := Bt.none (by simp)
            have hBW4 : Below w.heap.size w W4 := by rw [hW4]; exact below_drewN hBW _
            rw [← hW4]
            clear hW4 k3' k4' m4 m5 m6
            go_quiet (first | (go_at_call 5; refine Calls.quiet_of_same (equal_same (some ⟨b, o, none⟩) (some ⟨g, 0, none⟩) en c2 en _ _ (HB2'.out.drewN _) (HC2'.out.drewN _))))
            go_wp2_with fail
            refine (equal_same (some a3) (some ⟨g, 0, none⟩) 0 c3 0 _ _ (HB4.out.drewN _) (HC4.out.drewN _)).mono ?_
            rintro e w4 ⟨rfl, rfl⟩
            go_wp2
            go_ret
            exact ⟨by simp, below_drewN hBW4 _⟩
        · have hcs : ¬ n = cs := by omega
          have hne : ¬ n = en := fun h => hen' h.symm
          have HC1' : Hid (Bt W3 (some ⟨g, cs, none⟩) k ((L.drop cs).take k)) := HC3.out.bt cs k (by omega) (fun _ => by rw [Nat.zero_add])
          have HC3' : Hid (Bt W3 (some ⟨g, en, none⟩) m ((L.drop en).take m)) := HC3.out.bt en m (by have := HNM.out; omega) (fun _ => by rw [Nat.zero_add])
          go_quiet (first | (go_at_call 5; refine Calls.quiet_of_same (equal_same _ _ _ _ _ _ _ (HB1.out.drewN _) (HC1'.out.drewN _))))
          go_wp2_with fail
          obtain ⟨W4, hW4⟩ : ∃ W4, W4 = W3.drewN nq := ⟨_, rfl⟩
          have k4'' : W4.cell? ⟨w1.heap.size, 4, none⟩ = some (.slice (some ⟨b, o, none⟩) en c2) := by rw [hW4]; exact k4'
          have m6' : W4.cell? ⟨w3.heap.size, 6, none⟩ = some (.int .i64 en) := by rw [hW4]; exact m6
          have HB2' : Hid (Bt W4 (some ⟨b, o, none⟩) en ((L.drop 0).take en)) := by rw [hW4]; exact HB2
          have HC2' : Hid (Bt W4 (some ⟨g, 0, none⟩) en ((L.drop 0).take en)) := by rw [hW4]; exact HC2
          have HB4 : Hid (Bt W4 (some a3) m ((L.drop en).take m)) := by rw [hW4]; exact HB3
          have HC4 : Hid (Bt W4 (some ⟨g, en, none⟩) m ((L.drop en).take m)) := by rw [hW4]; exact HC3'
          have hBW4 : Below w.heap.size w W4 := by rw [hW4]; exact below_drewN hBW _
          rw [← hW4]
          clear hW4 k3' k4' m4 m5 m6
          go_quiet (first | (go_at_call 5; refine Calls.quiet_of_same (equal_same (some ⟨b, o, none⟩) (some ⟨g, 0, none⟩) en c2 n _ _ (HB2'.out.drewN _) (HC2'.out.drewN _))))
          go_wp2_with fail
          refine (equal_same (some a3) (some ⟨g, en, none⟩) m c3 m _ _ (HB4.out.drewN _) (HC4.out.drewN _)).mono ?_
          rintro e w4 ⟨rfl, rfl⟩
          go_wp2
          go_ret
          exact ⟨by simp, below_drewN hBW4 _⟩
end Go.Proofs.YbulkdvskFmt
