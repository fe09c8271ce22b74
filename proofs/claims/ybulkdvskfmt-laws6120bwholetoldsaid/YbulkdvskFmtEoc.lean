/-
  endOfContents (9), and Next (4) by induction on the length.
-/
import Derived.Test.YbulkdvskFmtHead
namespace Go.Proofs.YbulkdvskFmt
open Go.RowKit

theorem drop_getD (L : List Nat) (q k : Nat) : (L.drop q).getD k 0 = L.getD (q + k) 0 := by simp [List.getD]
theorem zero_iff (L : List Nat) (q : Nat) (hq : q ≤ L.length) : (2 ≤ (L.drop q).length ∧ (L.drop q).getD 0 0 = 0 ∧ (L.drop q).getD 1 0 = 0) ↔ (q + 2 ≤ L.length ∧ L.getD q 0 = 0 ∧ L.getD (q + 1) 0 = 0) := by
  rw [drop_getD, drop_getD, List.length_drop, Nat.add_zero]
  constructor
  · rintro ⟨a, b, c⟩; exact ⟨by omega, b, c⟩
  · rintro ⟨a, b, c⟩; exact ⟨by omega, b, c⟩

/-- The contents behind an element. -/
theorem eoc_next {L : List Nat} {q : Nat} {r : Res} (hq : q < L.length) (hz : ¬ (q + 2 ≤ L.length ∧ L.getD q 0 = 0 ∧ L.getD (q + 1) 0 = 0)) (hr : P false (L.drop q) = some r) :
    P true (L.drop q) = (P true (L.drop (q + r.en))).map fun s => ⟨0, 0, false, 0, 0, r.en + s.en⟩ := by
  rw [P_true, if_neg (fun h => hz ((zero_iff L q (by omega)).1 h)), if_neg (by simp; omega), hr, Option.bind_some, List.drop_drop]
theorem eoc_fail {L : List Nat} {q : Nat} (hq : q < L.length) (hz : ¬ (q + 2 ≤ L.length ∧ L.getD q 0 = 0 ∧ L.getD (q + 1) 0 = 0)) (hr : P false (L.drop q) = none) : P true (L.drop q) = none := by
  rw [P_true, if_neg (fun h => hz ((zero_iff L q (by omega)).1 h)), if_neg (by simp; omega), hr]; rfl
theorem eoc_end {L : List Nat} {q : Nat} (hq : L.length ≤ q) : P true (L.drop q) = none := by
  rw [List.drop_eq_nil_of_le hq, P_true]; simp
theorem eoc_zero {L : List Nat} {q : Nat} (hz : q + 2 ≤ L.length ∧ L.getD q 0 = 0 ∧ L.getD (q + 1) 0 = 0) : P true (L.drop q) = some ⟨0, 0, false, 0, 0, 2⟩ := by
  rw [P_true, if_pos ((zero_iff L q (by omega)).2 hz)]

/-- What the loop has of where it began. -/
def Rel (L : List Nat) (q0 q : Nat) : Prop := (P true (L.drop q0)).map (fun s => s.en) = (P true (L.drop q)).map fun s => q - q0 + s.en

theorem rel_start (L : List Nat) (q : Nat) : Rel L q q := by
  unfold Rel
  simp
theorem rel_next {L : List Nat} {q0 q : Nat} {r : Res} (h : Rel L q0 q) (h0 : q0 ≤ q) (hq : q < L.length) (hz : ¬ (q + 2 ≤ L.length ∧ L.getD q 0 = 0 ∧ L.getD (q + 1) 0 = 0)) (hr : P false (L.drop q) = some r) : Rel L q0 (q + r.en) := by
  unfold Rel at *
  rw [h, eoc_next hq hz hr, Option.map_map]
  congr 1
  funext s
  simp; omega
theorem rel_none {L : List Nat} {q0 q : Nat} (h : Rel L q0 q) (hn : P true (L.drop q) = none) : P true (L.drop q0) = none := by
  unfold Rel at h
  rw [hn] at h
  cases hh : P true (L.drop q0) with
  | none => rfl
  | some s => rw [hh] at h; simp at h
theorem rel_some {L : List Nat} {q0 q : Nat} {r : Res} (h : Rel L q0 q) (hn : P true (L.drop q) = some r) : ∃ s, P true (L.drop q0) = some s ∧ s.en = q - q0 + r.en := by
  unfold Rel at h
  rw [hn] at h
  cases hh : P true (L.drop q0) with
  | none => rw [hh] at h; simp at h
  | some s => rw [hh] at h; simp at h; exact ⟨s, rfl, h⟩

theorem ret_pair {a b : Int} {v : Value} (h : a = b) : Ending.returned (.tuple #[.int .i64 a, v]) = .returned (.tuple #[.int .i64 b, v]) := by rw [h]

theorem Oct.drop {w : World} {b o n : Nat} {L : List Nat} (h : Oct w b o n L) (q : Nat) (hq : q ≤ n) : Oct w b (o + q) (n - q) (L.drop q) :=
  ⟨by simp [h.1], h.2.1, fun t ht => by
    rw [drop_getD, Nat.add_assoc]
    exact h.2.2.1 (q + t) (by omega), fun t ht => by
    rw [drop_getD]
    exact h.2.2.2 (q + t) (by omega)⟩

theorem err_alloc {w1 : World} {t bb : Nat} {s0 : ByteArray} (ht : t = 44 ∨ t = 48) (hs : w1.cell? ⟨bb, 0, none⟩ = some (.string s0)) (A : Obj) : IsErr (w1.alloc A) (.iface t (.pointer (some ⟨bb, 0, none⟩))) :=
  ⟨t, bb, s0, ht, rfl, (World.cell?_alloc_lt w1 A _ (World.block_lt_of_cell? w1 _ hs)).trans hs⟩

/-- Next at every shorter length. -/
def Shorter (N : Nat) : Prop := ∀ (m : Nat), m < N → ∀ (b o c : Nat) (L : List Nat) (w : World), Oct w b o m L → m ≤ c → m ≤ 1048576 → Calls Ybaf.prog 4 #[.slice (some ⟨b, o, none⟩) m c] w (After w b o m L)

set_option maxHeartbeats 1000000 in
set_option maxRecDepth 100000 in
theorem eoc_any (b o n c q0 : Nat) (L : List Nat) (w : World) (hO : Oct w b o n L) (hc : n ≤ c) (hm : n ≤ 1048576) (hq2 : 2 ≤ q0) (hqn : q0 ≤ n) (IH : Hid (Shorter n)) :
    Calls Ybaf.prog 9 #[.slice (some ⟨b, o, none⟩) n c, .int .i64 q0] w (Eoc w L q0) := by
  have hL := hO.1
  have hblt := hO.2.1
  go_enter Ybaf.func9, Ybaf.ntmps9
  go_wp2
  go_loopw [1] (fun sat wr => ∃ q : Nat, sat = .int .i64 q ∧ q0 ≤ q ∧ q ≤ n ∧ Hid (Rel L q0 q) ∧ Below w.heap.size w wr) (fun sat _ => n - (intOf sat).toNat)
  case atStart => exact ⟨q0, rfl, Nat.le_refl _, hqn, rel_start L q0, Below.refl _ _⟩
  case round =>
    obtain ⟨q, rfl, h0, hqn', HR, hB⟩ := hrel
    have hOw := hO.below hB
    by_cases hz : q + 2 ≤ n ∧ L.getD q 0 = 0 ∧ L.getD (q + 1) 0 = 0
    · have c0 := hOw.2.2.1 q (by omega)
      have c1 := hOw.2.2.1 (q + 1) (by omega)
      rw [hz.2.1] at c0
      rw [hz.2.2] at c1
      have t1 : (q : Int) + 2 ≤ (n : Int) := by omega
      go_wp2
      go_ret2
      obtain ⟨s, hs, hse⟩ := rel_some HR.out (eoc_zero (by rw [hL]; exact hz))
      exact .inr ⟨s, hs, ret_pair (by simp at hse; omega), hB⟩
    · by_cases hql : q < n
      · have HZ : Hid (¬ (q + 2 ≤ L.length ∧ L.getD q 0 = 0 ∧ L.getD (q + 1) 0 = 0)) := by rw [hL]; exact hz
        have hIH := IH.out (n - q) (by omega) b (o + q) (c - q) (L.drop q) wr (hOw.drop q hqn') (by omega) (by omega)
        have HI : Hid (Calls Ybaf.prog 4 #[.slice (some ⟨b, o + q, none⟩) (n - q) (c - q)] wr (After wr b (o + q) (n - q) (L.drop q))) := hIH
        clear hIH
        have hcq : ¬ c = q := by omega
        have c0 := hOw.2.2.1 q (by omega)
        obtain ⟨x, hx⟩ : ∃ x, x = L.getD q 0 := ⟨_, rfl⟩
        obtain ⟨y, hy⟩ : ∃ y, y = L.getD (q + 1) 0 := ⟨_, rfl⟩
        have c1 : q + 2 ≤ n → wr.cell? ⟨b, o + (q + 1), none⟩ = some (.int .u8 (y : Int)) := fun h => by rw [hy]; exact hOw.2.2.1 (q + 1) (by omega)
        rw [← hx] at c0
        have hz' : ¬ (q + 2 ≤ n ∧ x = 0 ∧ y = 0) := by rw [hx, hy]; exact hz
        clear hz hx hy
        by_cases s1 : q + 2 ≤ n
        · have c1' := c1 s1
          clear c1
          by_cases s2 : x = 0
          · have s3 : ((y : Int) == 0) = false := by simp; omega
            subst s2
            go_wp2_with fail
            refine HI.out.mono ?_
            rintro e w1 (⟨hnone, v, rfl, hv, hb⟩ | ⟨r, hsome, a1, a2, a3, c1, c2, c3, rfl, _, _, _, hb⟩)
            · have HN : Hid (P true (L.drop q0) = none) := rel_none HR.out (eoc_fail (by omega) HZ.out hnone)
              clear hnone
              rw [show Z5 = #[.int .u8 0, .int .u32 0, .bool false, .slice none 0 0, .slice none 0 0] from rfl]
              obtain ⟨t, bb, s0, ht, rfl, hs⟩ := hv
              rcases ht with rfl | rfl
              · go_wp2
                go_ret2
                exact .inl ⟨HN.out, _, rfl, err_alloc (.inl rfl) hs _, (hB.trans (hb.mono hB.size)).alloc (Nat.le_trans hB.size hb.size) _⟩
              · go_wp2
                go_ret2
                exact .inl ⟨HN.out, _, rfl, err_alloc (.inr rfl) hs _, (hB.trans (hb.mono hB.size)).alloc (Nat.le_trans hB.size hb.size) _⟩
            · have gpos := P_pos hsome
              have hen : r.en ≤ n - q := by have := gpos.2.1; simp at this; rw [hL] at this; exact this
              have hen2 := gpos.1
              have HR2 : Hid (Rel L q0 (q + r.en)) := rel_next HR.out h0 (by omega) HZ.out hsome
              clear gpos hsome
              go_wp2
              go_roundw
              case rel => exact ⟨q + r.en, by go_num, by omega, by omega, HR2, (hB.trans (hb.mono hB.size)).alloc (Nat.le_trans hB.size hb.size) _⟩
              case measure => simp [intOf]; omega
          · have s3 : ((x : Int) == 0) = false := by simp; omega
            go_wp2_with fail
            refine HI.out.mono ?_
            rintro e w1 (⟨hnone, v, rfl, hv, hb⟩ | ⟨r, hsome, a1, a2, a3, c1, c2, c3, rfl, _, _, _, hb⟩)
            · have HN : Hid (P true (L.drop q0) = none) := rel_none HR.out (eoc_fail (by omega) HZ.out hnone)
              clear hnone
              rw [show Z5 = #[.int .u8 0, .int .u32 0, .bool false, .slice none 0 0, .slice none 0 0] from rfl]
              obtain ⟨t, bb, s0, ht, rfl, hs⟩ := hv
              rcases ht with rfl | rfl
              · go_wp2
                go_ret2
                exact .inl ⟨HN.out, _, rfl, err_alloc (.inl rfl) hs _, (hB.trans (hb.mono hB.size)).alloc (Nat.le_trans hB.size hb.size) _⟩
              · go_wp2
                go_ret2
                exact .inl ⟨HN.out, _, rfl, err_alloc (.inr rfl) hs _, (hB.trans (hb.mono hB.size)).alloc (Nat.le_trans hB.size hb.size) _⟩
            · have gpos := P_pos hsome
              have hen : r.en ≤ n - q := by have := gpos.2.1; simp at this; rw [hL] at this; exact this
              have hen2 := gpos.1
              have HR2 : Hid (Rel L q0 (q + r.en)) := rel_next HR.out h0 (by omega) HZ.out hsome
              clear gpos hsome
              go_wp2
              go_roundw
              case rel => exact ⟨q + r.en, by go_num, by omega, by omega, HR2, (hB.trans (hb.mono hB.size)).alloc (Nat.le_trans hB.size hb.size) _⟩
              case measure => simp [intOf]; omega
        · clear c1
          go_wp2_with fail
          refine HI.out.mono ?_
          rintro e w1 (⟨hnone, v, rfl, hv, hb⟩ | ⟨r, hsome, a1, a2, a3, c1, c2, c3, rfl, _, _, _, hb⟩)
          · have HN : Hid (P true (L.drop q0) = none) := rel_none HR.out (eoc_fail (by omega) HZ.out hnone)
            clear hnone
            rw [show Z5 = #[.int .u8 0, .int .u32 0, .bool false, .slice none 0 0, .slice none 0 0] from rfl]
            obtain ⟨t, bb, s0, ht, rfl, hs⟩ := hv
            rcases ht with rfl | rfl
            · go_wp2
              go_ret2
              exact .inl ⟨HN.out, _, rfl, err_alloc (.inl rfl) hs _, (hB.trans (hb.mono hB.size)).alloc (Nat.le_trans hB.size hb.size) _⟩
            · go_wp2
              go_ret2
              exact .inl ⟨HN.out, _, rfl, err_alloc (.inr rfl) hs _, (hB.trans (hb.mono hB.size)).alloc (Nat.le_trans hB.size hb.size) _⟩
          · have gpos := P_pos hsome
            have hen : r.en ≤ n - q := by have := gpos.2.1; simp at this; rw [hL] at this; exact this
            have hen2 := gpos.1
            exact absurd hen (by omega)
      · have hnone : P true (L.drop q0) = none := rel_none HR.out (eoc_end (by rw [hL]; omega))
        have HN : Hid (P true (L.drop q0) = none) := hnone
        clear hnone hz
        have t1 : ¬ (q : Int) + 2 ≤ (n : Int) := by omega
        go_wp2_with (go_at_call 7; refine (new_any _ _).mono ?_; rintro e w1 ⟨v, rfl, hv, hb⟩)
        go_ret2
        exact .inl ⟨HN.out, v, rfl, hv, hB.trans (hb.mono hB.size)⟩

theorem P_empty {L : List Nat} (h : L.length = 0) : P false L = none := by
  have : L = [] := List.eq_nil_of_length_eq_zero h
  subst this
  exact P_no_hdr rfl

/-- NEXT, at every length. -/
theorem next_all : ∀ N : Nat, Shorter N
  | 0 => fun m hm => by omega
  | N + 1 => fun m hm b o c L w hO hc hmm => by
    by_cases hN : m < N
    · exact next_all N m hN b o c L w hO hc hmm
    · obtain rfl : m = N := by omega
      by_cases h0 : m = 0
      · subst h0
        exact (next_empty (some ⟨b, o, none⟩) c w).mono fun e w' h => .inl ⟨P_empty hO.1, h⟩
      · exact next_main b o m c L w hO (by omega) hc hmm (fun q w1 hq2 hqn hO1 => eoc_any b o m c q L w1 hO1 hc hmm hq2 hqn (next_all m))

theorem next_any (b o n c : Nat) (L : List Nat) (w : World) (hO : Oct w b o n L) (hc : n ≤ c) (hm : n ≤ 1048576) : Calls Ybaf.prog 4 #[.slice (some ⟨b, o, none⟩) n c] w (After w b o n L) :=
  next_all (n + 1) n (Nat.lt_succ_self _) b o c L w hO hc hm
end Go.Proofs.YbulkdvskFmt
