/-
  The plain function 'units times ten so many times, or none', and the small callees that compute it.
-/
import Derived.Test.YbulkuaFmtErrs
namespace Go.Proofs.YbulkuaFmt
open Go.RowKit Go.Extern.Stop Go.Stop Go.Extern

/-- u times ten, k times, while it fits an int64. -/
def sc : Nat → Int → Option Int
  | 0, u => some u
  | k + 1, u => if 922337203685477580 < u ∨ u < -922337203685477580 then none else sc k (u * 10)

theorem sc_out {k : Nat} {u : Int} (h : 922337203685477580 < u ∨ u < -922337203685477580) : sc (k + 1) u = none := by simp [sc, h]
theorem sc_in {k : Nat} {u : Int} (h : ¬ (922337203685477580 < u ∨ u < -922337203685477580)) : sc (k + 1) u = sc k (u * 10) := by simp [sc, h]
theorem sc_zero (u : Int) : sc 0 u = some u := rfl

theorem places_any (u : Int) (p : Nat) (w : World) (hp : p ≤ 18) :
    Calls Ybaf.prog 16 #[.agg #[.int .i64 u, .int .u8 p]] w fun e w' => e = .returned (.int .i64 p) ∧ w' = w.alloc (.cells #[.int .i64 u, .int .u8 p] 23) := by
  go_enter Ybaf.func16, Ybaf.ntmps16
  go_wp2
  go_ret
  exact ⟨rfl, rfl⟩

theorem sign_any (u : Int) (p : Nat) (w : World) :
    Calls Ybaf.prog 8 #[.agg #[.int .i64 u, .int .u8 p]] w fun e w' => e = .returned (.int .i64 (if u < 0 then -1 else if 0 < u then 1 else 0)) ∧ w' = w.alloc (.cells #[.int .i64 u, .int .u8 p] 23) := by
  rcases Int.lt_trichotomy u 0 with h | h | h
  · go_enter Ybaf.func8, Ybaf.ntmps8
    go_wp2
    go_ret
    exact ⟨rfl, rfl⟩
  · subst h
    go_enter Ybaf.func8, Ybaf.ntmps8
    go_wp2
    go_ret
    exact ⟨rfl, rfl⟩
  · go_enter Ybaf.func8, Ybaf.ntmps8
    go_wp2
    go_ret
    exact ⟨rfl, rfl⟩

theorem times_in (u : Int) (w : World) (h : ¬ (922337203685477580 < u ∨ u < -922337203685477580)) :
    Calls Ybaf.prog 6 #[.int .i64 u] w fun e w' => e = .returned (.tuple #[.int .i64 (u * 10), .bool true]) ∧ w' = w := by
  go_enter Ybaf.func6, Ybaf.ntmps6
  go_wp2
  go_ret2
  exact ⟨rfl, rfl⟩

theorem times_test (u : Int) (_h1 : -9223372036854775808 ≤ u) (_h2 : u ≤ 9223372036854775807) (h : 922337203685477580 < u ∨ u < -922337203685477580) : (wrap64 ((wrap64 (u * 10)).tdiv 10) != u) = true := by
  obtain ⟨x, hx⟩ : ∃ x, x = wrap64 (u * 10) := ⟨_, rfl⟩
  have hr : -9223372036854775808 ≤ x ∧ x ≤ 9223372036854775807 ∧ (x - u * 10) % 18446744073709551616 = 0 := by
    rw [hx]; unfold wrap64; omega
  rw [← hx]
  have hq : x.tdiv 10 = if x < 0 then -((-x) / 10) else x / 10 := by
    split
    · rename_i h0
      have e : x.tdiv 10 = -((-x).tdiv 10) := by rw [Int.neg_tdiv, Int.neg_neg]
      rw [e, Int.tdiv_eq_ediv_of_nonneg (by omega)]
    · exact Int.tdiv_eq_ediv_of_nonneg (by omega)
  have hd : wrap64 (x.tdiv 10) = x.tdiv 10 := by
    rw [hq]; unfold wrap64; split <;> omega
  rw [hd]
  have : x.tdiv 10 ≠ u := by
    rw [hq]; split <;> omega
  simpa using this

theorem times_out (u : Int) (w : World) (h1 : -9223372036854775808 ≤ u) (h2 : u ≤ 9223372036854775807) (h : 922337203685477580 < u ∨ u < -922337203685477580) :
    Calls Ybaf.prog 6 #[.int .i64 u] w fun e w' => e = .returned (.tuple #[.int .i64 0, .bool false]) ∧ w' = w := by
  have ht := times_test u h1 h2 h
  go_enter Ybaf.func6, Ybaf.ntmps6
  go_wp2
  go_ret2
  exact ⟨rfl, rfl⟩

set_option maxHeartbeats 400000 in
theorem scaled_any (u : Int) (p q : Nat) (w : World) (hu1 : -9223372036854775808 ≤ u) (hu2 : u ≤ 9223372036854775807) (hpq : p ≤ q) (hq : q ≤ 18) :
    Calls Ybaf.prog 17 #[.agg #[.int .i64 u, .int .u8 p], .int .u8 q] w fun e w' => e = .returned (.tuple #[.int .i64 ((sc (q - p) u).getD 0), .bool (sc (q - p) u).isSome]) ∧ w' = w.alloc (.cells #[.int .i64 u, .int .u8 p] 23) := by
  go_enter Ybaf.func17, Ybaf.ntmps17
  go_wp2
  go_loop [6, 13] (fun a c => ∃ (k : Nat) (v : Int), k ≤ q - p ∧ a = .int .i64 v ∧ c = .int .u8 k ∧ -9223372036854775808 ≤ v ∧ v ≤ 9223372036854775807 ∧ Hid (sc (q - p) u = sc (q - p - k) v)) (fun _ c => (q - p) - (intOf c).toNat)
  case atStart => exact ⟨0, u, by omega, rfl, rfl, hu1, hu2, rfl⟩
  case round =>
    obtain ⟨k, v, hk, rfl, rfl, hv1, hv2, HS⟩ := hrel
    by_cases hlt : k < q - p
    · have e1 : q - p - k = (q - p - (k + 1)) + 1 := by omega
      by_cases hov : 922337203685477580 < v ∨ v < -922337203685477580
      · have HN : Hid (sc (q - p) u = none) := by show _ = _; rw [HS.out, e1]; exact sc_out hov
        clear e1 HS
        rcases hov with hov | hov
        · go_wp2
          go_ret2
          exact ⟨by rw [HN.out]; rfl, rfl⟩
        · go_wp2
          go_ret2
          exact ⟨by rw [HN.out]; rfl, rfl⟩
      · have HN : Hid (sc (q - p) u = sc (q - p - (k + 1)) (v * 10)) := by show _ = _; rw [HS.out, e1]; exact sc_in hov
        clear e1 HS
        go_wp2
        go_round
        case rel => exact ⟨k + 1, v * 10, by omega, rfl, by go_num, by omega, by omega, HN⟩
        case measure => simp [intOf]; omega
    · have HN : Hid (sc (q - p) u = some v) := by show _ = _; rw [HS.out, show q - p - k = 0 by omega]; exact sc_zero v
      clear HS
      go_wp2
      go_ret2
      exact ⟨by rw [HN.out]; rfl, rfl⟩
end Go.Proofs.YbulkuaFmt
