/-
  The law on count, walked.
-/
import Derived.Test.YbulkxgFmtCount
import Derived.Test.YbulkxgFmtIs
namespace Go.Proofs.YbulkxgFmt
open Go.RowKit Go.Extern.Stop Go.Stop Go.Extern
set_option linter.unusedVariables false

section
variable (F : Interp) (x m r n : Int) (k : Nat) (a : Addr) (s : ByteArray) (w : World)

set_option maxHeartbeats 800000 in
theorem law_ok (hx0 : 0 ≤ x) (hx1 : x ≤ 255) (hm1 : -9223372036854775808 ≤ m) (hm2 : m ≤ 9223372036854775807) (hn1 : -9223372036854775808 ≤ n) (hn2 : n ≤ 9223372036854775807) (hk : x % 5 = k) (hk2 : k = 0 ∨ k = 2) (hn : n ≤ m) :
    Calls Ybaf.prog 3 #[.int .u8 x, .int .i64 m, .int .i64 r, .int .i64 n] w fun e w' => e = .returned (.bool true) ∧ Below w.heap.size w w' := by
  rcases hk2 with rfl | rfl
  all_goals
    go_enter Ybaf.func3, Ybaf.ntmps3
    go_wp2_with (first | (go_at_call 5; go_in) | (go_at_call 6; refine (new_any m _).mono ?_; rintro e w1 ⟨rfl, hE, hb, hz⟩) | (go_at_call 7; go_in))
    refine (count_ok _ m n _ hE hm1 hm2 hn1 hn2 hn).mono ?_
    rintro e w2 ⟨rfl, nq, rfl⟩
    have h10 := hE.counted
    go_wp2
    go_ret
    exact ⟨rfl, (below_drewN hb nq).setCell (by simp) _⟩

set_option maxHeartbeats 800000 in
theorem law_past (hF : F.answers w.tape) (hx0 : 0 ≤ x) (hx1 : x ≤ 255) (hm1 : -9223372036854775808 ≤ m) (hm2 : m ≤ 9223372036854775807) (hn1 : -9223372036854775808 ≤ n) (hn2 : n ≤ 9223372036854775807) (hk : x % 5 = k) (hk2 : k = 0 ∨ k = 2) (hn : m < n)
    (hg : w.cell? ⟨0, 0, none⟩ = some (.iface 120 (.pointer (some a)))) (ha : w.cell? a = some (.string s)) :
    Calls Ybaf.prog 3 #[.int .u8 x, .int .i64 m, .int .i64 r, .int .i64 n] w fun e w' => e = .returned (.bool true) ∧ Below w.heap.size w w' := by
  rcases hk2 with rfl | rfl
  all_goals
    go_enter Ybaf.func3, Ybaf.ntmps3
    go_wp2_with (first | (go_at_call 5; go_in) | (go_at_call 6; refine (new_any m _).mono ?_; rintro e w1 ⟨rfl, hE, hb, hz⟩) | (go_at_call 7; go_in))
    have hg1 : w1.cell? ⟨0, 0, none⟩ = some (.iface 120 (.pointer (some a))) := cell_later hb hg
    refine (count_past F _ m n a s _ ?_ hE hm1 hm2 hn1 hn2 hn hg1 (cell_later hb ha)).mono ?_
    · rw [hb.tape]; exact hF
    rintro e w2 ⟨pb, rfl, h1, h2, hb2⟩
    have h10 : w2.cell? ⟨w.heap.size + 1, 10, none⟩ = some (.int .i64 0) := by rw [hb2.cell hz]; exact hE.counted
    have hg2 : w2.cell? ⟨0, 0, none⟩ = some (.iface 120 (.pointer (some a))) := cell_later hb2 hg1
    clear hE hg1
    go_wp2_with (go_at_call 8; refine (is_wrap_same pb a _ h1).mono ?_; rintro e w' ⟨rfl, rfl⟩)
    go_ret
    exact ⟨rfl, hb.trans (hb2.mono hb.size)⟩

set_option maxHeartbeats 800000 in
theorem law_once (hx0 : 0 ≤ x) (hx1 : x ≤ 255) (hm1 : -9223372036854775808 ≤ m) (hm2 : m ≤ 9223372036854775807) (hk : x % 5 = (4 : Nat)) :
    Calls Ybaf.prog 3 #[.int .u8 x, .int .i64 m, .int .i64 r, .int .i64 n] w fun e w' => e = .returned (.bool true) ∧ Below w.heap.size w w' := by
  go_enter Ybaf.func3, Ybaf.ntmps3
  go_wp2_with (first | (go_at_call 5; go_in) | (go_at_call 6; refine (new_any m _).mono ?_; rintro e w1 ⟨rfl, hE, hb, hz⟩; obtain ⟨h7, h10, h18, h43, f10, f43⟩ := hE) | (go_at_call 7; go_in))
  go_ret
  exact ⟨rfl, (hb.setCell (by simp) _).alloc (by simpa using hb.size) _⟩

set_option maxHeartbeats 800000 in
theorem law_again (hx0 : 0 ≤ x) (hx1 : x ≤ 255) (hm1 : -9223372036854775808 ≤ m) (hm2 : m ≤ 9223372036854775807) (hk : x % 5 = k) (hk2 : k = 1 ∨ k = 3) :
    Calls Ybaf.prog 3 #[.int .u8 x, .int .i64 m, .int .i64 r, .int .i64 n] w fun e w' => e = .returned (.bool true) ∧ Below w.heap.size w w' := by
  rcases hk2 with rfl | rfl
  all_goals
    go_enter Ybaf.func3, Ybaf.ntmps3
    go_wp2_with (first | (go_at_call 5; go_in) | (go_at_call 6; refine (new_any m _).mono ?_; rintro e w1 ⟨rfl, hE, hb, hz⟩; obtain ⟨h7, h10, h18, h43, f10, f43⟩ := hE) | (go_at_call 7; go_in))
    go_ret
    exact ⟨rfl, (hb.setCell (by simp) _).alloc (by simpa using hb.size) _⟩
end
end Go.Proofs.YbulkxgFmt
