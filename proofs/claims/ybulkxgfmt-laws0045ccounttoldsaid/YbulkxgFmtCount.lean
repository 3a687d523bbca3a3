/-
  New, Count, countPast, count by their contracts.
-/
import Derived.Test.YbulkxgFmtFacts
import Derived.WalkKit
import Derived.WalkSpells
import Derived.WalkLawsBesides
import Derived.Deep.QuietTactic
import Derived.BigQuiet
import Derived.WalkSmall
namespace Go.Proofs.YbulkxgFmt
open Go.RowKit Go.Extern.Stop Go.Stop Go.Extern
set_option linter.unusedVariables false

/-- An Evaluator in block b: its bound m, what it has counted, the count at which it looks (m), its reservation. -/
structure Ev (b : Nat) (m c : Int) (r : Option Addr) (w : World) : Prop where
  max : w.cell? ⟨b, 7, none⟩ = some (.int .i64 m)
  counted : w.cell? ⟨b, 10, none⟩ = some (.int .i64 c)
  countTo : w.cell? ⟨b, 18, none⟩ = some (.int .i64 m)
  reserved : w.cell? ⟨b, 43, none⟩ = some (.pointer r)
  free10 : w.frozen? ⟨b, 10, none⟩ = false
  free43 : w.frozen? ⟨b, 43, none⟩ = false

set_option maxHeartbeats 400000 in
theorem new_any (m : Int) (w : World) :
    Calls Ybaf.prog 6 #[.map none, .nilIface, .agg #[.int .i64 0, .int .i64 0, .int .i64 0, .int .i64 m]] w fun e w' => e = .returned (.pointer (some ⟨w.heap.size + 1, 0, none⟩)) ∧ Ev (w.heap.size + 1) m 0 none w' ∧ Below w.heap.size w w' ∧ w.heap.size + 1 < w'.heap.size := by
  go_enter Ybaf.func6, Ybaf.ntmps6
  go_wp2
  go_ret
  refine ⟨rfl, ⟨by go_simp, by go_simp, by go_simp, by go_simp, by go_simp, by go_simp⟩, ((Below.refl _ w).alloc (Nat.le_refl _) _).alloc (by simp) _, by simp⟩

set_option maxHeartbeats 400000 in
theorem count_ok (b : Nat) (m n : Int) (w : World) (hE : Ev b m 0 none w) (hm1 : -9223372036854775808 ≤ m) (hm2 : m ≤ 9223372036854775807) (hn1 : -9223372036854775808 ≤ n) (hn2 : n ≤ 9223372036854775807) (hn : n ≤ m) :
    Calls Ybaf.prog 9 #[.pointer (some ⟨b, 0, none⟩), .int .i64 n] w fun e w' => e = .returned .nilIface ∧ ∃ nq, w' = (w.drewN nq).setCell ⟨b, 10, none⟩ (.int .i64 n) := by
  obtain ⟨h7, h10, h18, h43, f10, f43⟩ := hE
  go_enter Ybaf.func9, Ybaf.ntmps9
  go_wp2
  go_quiet (fail)
  go_wp2
  go_ret
  exact ⟨rfl, nq, rfl⟩

set_option maxHeartbeats 400000 in
theorem many_any (F : Interp) (m : Int) (a : Addr) (s : ByteArray) (w : World) (hF : F.answers w.tape)
    (hg : w.cell? ⟨0, 0, none⟩ = some (.iface 120 (.pointer (some a)))) (ha : w.cell? a = some (.string s)) :
    Calls Ybaf.prog 14 #[.int .i64 m] w fun e w' => ∃ pb, e = .returned (.iface 116 (.pointer (some ⟨pb, 0, none⟩))) ∧ w'.cell? ⟨pb, 0 + 1, none⟩ = some (.iface 120 (.pointer (some a))) ∧ w.heap.size ≤ pb ∧ Below w.heap.size w w' := by
  have hF' := answers_open hF
  have hop := fun nm (o : Obj) => Ybaf.opPlain120_119w nm a s (w.alloc o) (cell_later ((Below.refl _ w).alloc (Nat.le_refl _) o) ha)
  go_enter Ybaf.func14, Ybaf.ntmps14
  go_wp2
  go_ret
  exact ⟨w.heap.size + 1, rfl, by go_simp, by omega, (((Below.refl _ w).alloc (Nat.le_refl _) _).alloc (by simp) _).drew⟩

set_option maxHeartbeats 400000 in
theorem past_any (F : Interp) (b : Nat) (m n : Int) (a : Addr) (s : ByteArray) (w : World) (hF : F.answers w.tape) (hE : Ev b m 0 none w) (hm1 : -9223372036854775808 ≤ m) (hm2 : m ≤ 9223372036854775807) (hn1 : -9223372036854775808 ≤ n) (hn2 : n ≤ 9223372036854775807) (hn : m < n)
    (hg : w.cell? ⟨0, 0, none⟩ = some (.iface 120 (.pointer (some a)))) (ha : w.cell? a = some (.string s)) :
    Calls Ybaf.prog 12 #[.pointer (some ⟨b, 0, none⟩), .int .i64 n] w fun e w' => ∃ pb, e = .returned (.iface 116 (.pointer (some ⟨pb, 0, none⟩))) ∧ w'.cell? ⟨pb, 0 + 1, none⟩ = some (.iface 120 (.pointer (some a))) ∧ w.heap.size ≤ pb ∧ Below w.heap.size w w' := by
  obtain ⟨h7, h10, h18, h43, f10, f43⟩ := hE
  go_enter Ybaf.func12, Ybaf.ntmps12
  go_wp2
  go_quiet (fail)
  go_wp2_with fail
  refine (many_any F m a s _ ?_ ?_ ?_).mono ?_
  · exact hF
  · exact hg
  · exact ha
  rintro e w' ⟨pb, rfl, h1, h2, h3⟩
  go_wp2
  go_ret
  exact ⟨pb, rfl, h1, h2, (below_drewN (Below.refl _ w) nq).trans h3⟩

set_option maxHeartbeats 400000 in
theorem count_past (F : Interp) (b : Nat) (m n : Int) (a : Addr) (s : ByteArray) (w : World) (hF : F.answers w.tape) (hE : Ev b m 0 none w) (hm1 : -9223372036854775808 ≤ m) (hm2 : m ≤ 9223372036854775807) (hn1 : -9223372036854775808 ≤ n) (hn2 : n ≤ 9223372036854775807) (hn : m < n)
    (hg : w.cell? ⟨0, 0, none⟩ = some (.iface 120 (.pointer (some a)))) (ha : w.cell? a = some (.string s)) :
    Calls Ybaf.prog 9 #[.pointer (some ⟨b, 0, none⟩), .int .i64 n] w fun e w' => ∃ pb, e = .returned (.iface 116 (.pointer (some ⟨pb, 0, none⟩))) ∧ w'.cell? ⟨pb, 0 + 1, none⟩ = some (.iface 120 (.pointer (some a))) ∧ w.heap.size ≤ pb ∧ Below w.heap.size w w' := by
  obtain ⟨h7, h10, h18, h43, f10, f43⟩ := hE
  go_enter Ybaf.func9, Ybaf.ntmps9
  go_wp2
  go_quiet (fail)
  go_wp2_with fail
  refine (past_any F b m n a s _ ?_ ?_ hm1 hm2 hn1 hn2 hn ?_ ?_).mono ?_
  · exact hF
  · exact ⟨h7, h10, h18, h43, f10, f43⟩
  · exact hg
  · exact ha
  rintro e w' ⟨pb, rfl, h1, h2, h3⟩
  go_wp2
  go_ret
  exact ⟨pb, rfl, h1, h2, (below_drewN (Below.refl _ w) nq).trans h3⟩
end Go.Proofs.YbulkxgFmt
