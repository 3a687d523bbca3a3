/-
  The law's own walk, in its four ways.
-/
import Derived.Test.YbulkuaFmtPos
import Derived.Test.YbulkuaFmtIs
namespace Go.Proofs.YbulkuaFmt
open Go.RowKit Go.Extern.Stop Go.Stop Go.Extern

/-- What the law reads of old memory: the two sentinels, apart, each in a row of cells that can be compared. -/
structure Laid2 (a0 a1 : Addr) (s0 s1 : ByteArray) (c0 c1 : Array Value) (t0 t1 : TypeId) (w : World) : Prop where
  sents : Sents a0 a1 s0 s1 w
  b0 : w.heap[a0.block]? = some (.cells c0 t0 (0, 0))
  b1 : w.heap[a1.block]? = some (.cells c1 t1 (0, 0))
  ne : a0 ≠ a1

theorem Laid2.later {a0 a1 : Addr} {s0 s1 : ByteArray} {c0 c1 : Array Value} {t0 t1 : TypeId} {w w' : World} (h : Laid2 a0 a1 s0 s1 c0 c1 t0 t1 w) (hb : Below w.heap.size w w') : Laid2 a0 a1 s0 s1 c0 c1 t0 t1 w' :=
  ⟨h.sents.later hb, by rw [hb.block _ (World.block_lt_of_cell? _ _ h.sents.c0)]; exact h.b0, by rw [hb.block _ (World.block_lt_of_cell? _ _ h.sents.c1)]; exact h.b1, h.ne⟩

section
variable (F : Interp) (nm : ByteArray) (u x y : Int) (d q : Nat) (a0 a1 : Addr) (s0 s1 : ByteArray) (c0 c1 : Array Value) (t0 t1 : TypeId) (w : World)

set_option maxHeartbeats 800000 in
theorem law_many (hF : F.answers w.tape) (hu1 : -9223372036854775808 ≤ u) (hu2 : u ≤ 9223372036854775807) (hx0 : 0 ≤ x) (hx1 : x ≤ 255) (hy0 : 0 ≤ y) (hy1 : y ≤ 255) (hx : x % 19 = d) (hy : y % 19 = q) (hqd : q < d)
    (hL : Laid2 a0 a1 s0 s1 c0 c1 t0 t1 w) :
    Calls Ybaf.prog 3 #[.int .i64 u, .int .u8 x, .int .u8 y, .string nm] w fun e w' => e = .returned (.bool true) ∧ Below w.heap.size w w' := by
  have hd18 : d ≤ 18 := by omega
  have HP : Hid (∀ W, Below w.heap.size w W → BadCarried nm u d q a0 W) := fun W hb =>
    carried_bad F nm u d q a0 W (by rw [hb.tape]; exact hF) fun W2 hb2 =>
      with_many F u d q a0 a1 s0 s1 W2 (by rw [hb2.tape, hb.tape]; exact hF) hu1 hu2 hd18 hqd ((hL.sents.later hb).later hb2)
  have HL := hid hL
  clear hL
  go_enter Ybaf.func3, Ybaf.ntmps3
  go_wp2_with fail
  refine (positive_bad nm u d q a0 _ HP.out).mono ?_
  rintro e w1 ⟨pb, qb, rfl, hp, hq, hb⟩
  have hS := (HL.out.later hb).sents
  have hg0 := hS.g0
  have hz0 : 0 < w1.heap.size := World.block_lt_of_cell? _ _ hS.g0
  go_wp2_with (go_at_call 5; refine (is_wrap2_same pb 0 qb 0 a0 _ ?_ ?_).mono ?_; (rw [World.cell?_alloc_past _ _ _ hp.2.2.2]; exact hp.2.2.1); (rw [World.cell?_alloc_past _ _ _ hq.2.2.2]; exact hq.2.2.1); rintro e w' ⟨rfl, rfl⟩)
  go_ret
  exact ⟨rfl, hb.alloc hb.size _⟩

set_option maxHeartbeats 800000 in
theorem law_range (hF : F.answers w.tape) (hu1 : -9223372036854775808 ≤ u) (hu2 : u ≤ 9223372036854775807) (hx0 : 0 ≤ x) (hx1 : x ≤ 255) (hy0 : 0 ≤ y) (hy1 : y ≤ 255) (hx : x % 19 = d) (hy : y % 19 = q) (hqd : d ≤ q)
    (hsc : sc (q - d) u = none) (hL : Laid2 a0 a1 s0 s1 c0 c1 t0 t1 w) :
    Calls Ybaf.prog 3 #[.int .i64 u, .int .u8 x, .int .u8 y, .string nm] w fun e w' => e = .returned (.bool true) ∧ Below w.heap.size w w' := by
  have hq18 : q ≤ 18 := by omega
  have hdq : decide (q < d) = false := by simp; omega
  have HP : Hid (∀ W, Below w.heap.size w W → BadCarried nm u d q a1 W) := fun W hb =>
    carried_bad F nm u d q a1 W (by rw [hb.tape]; exact hF) fun W2 hb2 =>
      with_range F u d q a0 a1 s0 s1 W2 (by rw [hb2.tape, hb.tape]; exact hF) hu1 hu2 hqd hq18 hsc ((hL.sents.later hb).later hb2)
  have HL := hid hL
  have HN := hid hsc
  clear hL hsc
  go_enter Ybaf.func3, Ybaf.ntmps3
  go_wp2_with fail
  refine (positive_bad nm u d q a1 _ HP.out).mono ?_
  rintro e w1 ⟨pb, qb, rfl, hp, hq, hb⟩
  have hS := (HL.out.later hb).sents
  have hg0 := hS.g0
  have hg1 := hS.g1
  have hz0 : 0 < w1.heap.size := World.block_lt_of_cell? _ _ hS.g0
  have hz1 : 1 < w1.heap.size := World.block_lt_of_cell? _ _ hS.g1
  have hL2 := (HL.out.later hb).later ((Below.refl _ w1).alloc (Nat.le_refl _) (.cells #[.int .i64 0, .int .u8 0] 23))
  have HL2 := hid hL2
  clear hL2
  go_wp2_with fail
  go_loop [13, 14, 15] (fun a b c => ∃ (i : Nat) (v : Int), d ≤ i ∧ i ≤ q ∧ a = .int .i64 v ∧ b = .bool true ∧ c = .int .i64 i ∧ -9223372036854775808 ≤ v ∧ v ≤ 9223372036854775807 ∧ Hid (sc (q - d) u = sc (q - i) v)) (fun _ _ c => q - (intOf c).toNat)
  case atStart => exact ⟨d, u, by omega, hqd, rfl, rfl, by go_num, hu1, hu2, rfl⟩
  case round =>
    obtain ⟨i, v, hdi, hiq, rfl, rfl, rfl, hv1, hv2, HS⟩ := hrel
    by_cases hlt : i < q
    · by_cases hov : 922337203685477580 < v ∨ v < -922337203685477580
      · go_wp2_with (go_at_call 6; refine (times_out v _ hv1 hv2 hov).mono ?_; rintro e w' ⟨rfl, rfl⟩)
        refine (is_wrap2_same pb 0 qb 0 a1 _ ?_ ?_).mono ?_
        · rw [World.cell?_alloc_past _ _ _ hp.2.2.2]; exact hp.2.2.1
        · rw [World.cell?_alloc_past _ _ _ hq.2.2.2]; exact hq.2.2.1
        rintro e w' ⟨rfl, rfl⟩
        go_wp2_with fail
        refine (is_wrap2_other pb 0 qb 0 a0 a1 c1 c0 t1 t0 _ ?_ ?_ (Ne.symm HL2.out.ne) HL2.out.b1 HL2.out.b0).mono ?_
        · rw [World.cell?_alloc_past _ _ _ hp.2.2.2]; exact hp.2.2.1
        · rw [World.cell?_alloc_past _ _ _ hq.2.2.2]; exact hq.2.2.1
        rintro e w' ⟨rfl, rfl⟩
        go_wp2
        go_ret
        exact ⟨rfl, hb.alloc hb.size _⟩
      · have HN2 : Hid (sc (q - d) u = sc (q - (i + 1)) (v * 10)) := by show _ = _; rw [HS.out, show q - i = q - (i + 1) + 1 by omega]; exact sc_in hov
        go_wp2_with (go_at_call 6; refine (times_in v _ hov).mono ?_; rintro e w' ⟨rfl, rfl⟩)
        go_round
        case rel => exact ⟨i + 1, v * 10, by omega, by omega, rfl, rfl, by go_num, by omega, by omega, HN2⟩
        case measure => simp [intOf]; omega
    · exfalso
      have h1 := HS.out
      rw [HN.out, show q - i = 0 by omega] at h1
      cases h1

theorem sc_range {k : Nat} {u z : Int} (h1 : -9223372036854775808 ≤ u) (h2 : u ≤ 9223372036854775807) (h : sc k u = some z) : -9223372036854775808 ≤ z ∧ z ≤ 9223372036854775807 := by
  induction k generalizing u with
  | zero => obtain rfl := Option.some.inj h; exact ⟨h1, h2⟩
  | succ k ih =>
    by_cases hov : 922337203685477580 < u ∨ u < -922337203685477580
    · rw [sc_out hov] at h; cases h
    · rw [sc_in hov] at h
      exact ih (by omega) (by omega) h

set_option maxHeartbeats 800000 in
theorem law_ok (z : Int) (hu1 : -9223372036854775808 ≤ u) (hu2 : u ≤ 9223372036854775807) (hx0 : 0 ≤ x) (hx1 : x ≤ 255) (hy0 : 0 ≤ y) (hy1 : y ≤ 255) (hx : x % 19 = d) (hy : y % 19 = q) (hqd : d ≤ q)
    (hsc : sc (q - d) u = some z) (hz : 0 < z) :
    Calls Ybaf.prog 3 #[.int .i64 u, .int .u8 x, .int .u8 y, .string nm] w fun e w' => e = .returned (.bool true) ∧ Below w.heap.size w w' := by
  have hq18 : q ≤ 18 := by omega
  have hdq : decide (q < d) = false := by simp; omega
  have HN := hid hsc
  clear hsc
  go_enter Ybaf.func3, Ybaf.ntmps3
  go_wp2_with fail
  refine (positive_ok nm u z d q _ hu1 hu2 hqd hq18 HN.out hz).mono ?_
  rintro e w1 ⟨rfl, hb⟩
  go_wp2_with fail
  go_loop [13, 14, 15] (fun a b c => ∃ (i : Nat) (v : Int), d ≤ i ∧ i ≤ q ∧ a = .int .i64 v ∧ b = .bool true ∧ c = .int .i64 i ∧ -9223372036854775808 ≤ v ∧ v ≤ 9223372036854775807 ∧ Hid (sc (q - d) u = sc (q - i) v)) (fun _ _ c => q - (intOf c).toNat)
  case atStart => exact ⟨d, u, by omega, hqd, rfl, rfl, by go_num, hu1, hu2, rfl⟩
  case round =>
    obtain ⟨i, v, hdi, hiq, rfl, rfl, rfl, hv1, hv2, HS⟩ := hrel
    by_cases hlt : i < q
    · by_cases hov : 922337203685477580 < v ∨ v < -922337203685477580
      · exfalso
        have h1 := HS.out
        rw [HN.out, show q - i = q - (i + 1) + 1 by omega, sc_out hov] at h1
        cases h1
      · have HN2 : Hid (sc (q - d) u = sc (q - (i + 1)) (v * 10)) := by show _ = _; rw [HS.out, show q - i = q - (i + 1) + 1 by omega]; exact sc_in hov
        go_wp2_with (go_at_call 6; refine (times_in v _ hov).mono ?_; rintro e w' ⟨rfl, rfl⟩)
        go_round
        case rel => exact ⟨i + 1, v * 10, by omega, by omega, rfl, rfl, by go_num, by omega, by omega, HN2⟩
        case measure => simp [intOf]; omega
    · obtain rfl : z = v := by
        have h1 := HS.out
        rw [HN.out, show q - i = 0 by omega] at h1
        exact Option.some.inj h1
      go_wp2
      go_ret
      exact ⟨rfl, hb.alloc hb.size _⟩

set_option maxHeartbeats 800000 in
theorem law_low (z : Int) (hF : F.answers w.tape) (hu1 : -9223372036854775808 ≤ u) (hu2 : u ≤ 9223372036854775807) (hx0 : 0 ≤ x) (hx1 : x ≤ 255) (hy0 : 0 ≤ y) (hy1 : y ≤ 255) (hx : x % 19 = d) (hy : y % 19 = q) (hqd : d ≤ q)
    (hsc : sc (q - d) u = some z) (hz : z ≤ 0) (hL : Laid2 a0 a1 s0 s1 c0 c1 t0 t1 w) :
    Calls Ybaf.prog 3 #[.int .i64 u, .int .u8 x, .int .u8 y, .string nm] w fun e w' => e = .returned (.bool true) ∧ Below w.heap.size w w' := by
  have hq18 : q ≤ 18 := by omega
  have hdq : decide (q < d) = false := by simp; omega
  have hr := sc_range hu1 hu2 hsc
  have HN := hid hsc
  have HL := hid hL
  clear hsc hL
  go_enter Ybaf.func3, Ybaf.ntmps3
  go_wp2_with fail
  refine (positive_low F nm u z d q _ hF hu1 hu2 hqd hq18 HN.out hz hr.1).mono ?_
  rintro e w1 ⟨pb, cs, rfl, hpb, hcs, hb⟩
  have hS := (HL.out.later hb).sents
  have hg0 := hS.g0
  have hg1 := hS.g1
  have hz0 : 0 < w1.heap.size := World.block_lt_of_cell? _ _ hS.g0
  have hz1 : 1 < w1.heap.size := World.block_lt_of_cell? _ _ hS.g1
  have hL2 := (HL.out.later hb).later ((Below.refl _ w1).alloc (Nat.le_refl _) (.cells #[.int .i64 0, .int .u8 0] 23))
  have HL2 := hid hL2
  have hn0 : (⟨pb, 0, none⟩ : Addr) ≠ a0 := fun e => by
    have := World.block_lt_of_cell? _ _ HL.out.sents.c0
    rw [← e] at this
    exact absurd this (by show ¬ pb < _; omega)
  have hn1 : (⟨pb, 0, none⟩ : Addr) ≠ a1 := fun e => by
    have := World.block_lt_of_cell? _ _ HL.out.sents.c1
    rw [← e] at this
    exact absurd this (by show ¬ pb < _; omega)
  have hcs2 : (w1.alloc (.cells #[.int .i64 0, .int .u8 0] 23)).heap[pb]? = some (.cells cs 57 (0, 0)) := by
    rw [Below.heap_alloc _ _ _ (by
      rcases Nat.lt_or_ge pb w1.heap.size with h | h
      · exact h
      · rw [Array.getElem?_eq_none h] at hcs; cases hcs)]
    exact hcs
  have HC := hid hcs2
  have HN0 := hid hn0
  have HN1 := hid hn1
  clear hL2 hcs hcs2 hn0 hn1
  go_wp2_with fail
  go_loop [13, 14, 15] (fun a b c => ∃ (i : Nat) (v : Int), d ≤ i ∧ i ≤ q ∧ a = .int .i64 v ∧ b = .bool true ∧ c = .int .i64 i ∧ -9223372036854775808 ≤ v ∧ v ≤ 9223372036854775807 ∧ Hid (sc (q - d) u = sc (q - i) v)) (fun _ _ c => q - (intOf c).toNat)
  case atStart => exact ⟨d, u, by omega, hqd, rfl, rfl, by go_num, hu1, hu2, rfl⟩
  case round =>
    obtain ⟨i, v, hdi, hiq, rfl, rfl, rfl, hv1, hv2, HS⟩ := hrel
    by_cases hlt : i < q
    · by_cases hov : 922337203685477580 < v ∨ v < -922337203685477580
      · exfalso
        have h1 := HS.out
        rw [HN.out, show q - i = q - (i + 1) + 1 by omega, sc_out hov] at h1
        cases h1
      · have HN2 : Hid (sc (q - d) u = sc (q - (i + 1)) (v * 10)) := by show _ = _; rw [HS.out, show q - i = q - (i + 1) + 1 by omega]; exact sc_in hov
        go_wp2_with (go_at_call 6; refine (times_in v _ hov).mono ?_; rintro e w' ⟨rfl, rfl⟩)
        go_round
        case rel => exact ⟨i + 1, v * 10, by omega, by omega, rfl, rfl, by go_num, by omega, by omega, HN2⟩
        case measure => simp [intOf]; omega
    · obtain rfl : z = v := by
        have h1 := HS.out
        rw [HN.out, show q - i = 0 by omega] at h1
        exact Option.some.inj h1
      go_wp2_with fail
      refine (is_other ⟨pb, 0, none⟩ a1 cs c1 57 t1 _ HN1.out HC.out HL2.out.b1).mono ?_
      rintro e w' ⟨rfl, rfl⟩
      go_wp2_with fail
      refine (is_other ⟨pb, 0, none⟩ a0 cs c0 57 t0 _ HN0.out HC.out HL2.out.b0).mono ?_
      rintro e w' ⟨rfl, rfl⟩
      go_wp2
      go_ret
      exact ⟨rfl, hb.alloc hb.size _⟩
end
end Go.Proofs.YbulkuaFmt
