/-
  MarshalText by its contracts; the law on the table, walked.
-/
import Derived.Test.YbulkuoFmtFacts
import Derived.Laws.IdiomStrings
namespace Go.Proofs.YbulkuoFmt
open Go.RowKit Go.Extern.Stop Go.Stop Go.Extern

set_option maxHeartbeats 400000 in
theorem marshal_bad (F : Interp) (n : Int) (w : World) (hF : F.answers w.tape) (hn : n < 0 ∨ 4 ≤ n) :
    Calls Ybaf.prog 5 #[.int .i64 n] w fun e w' => ∃ b, e = .returned (.tuple #[.slice none 0 0, .iface 41 (.pointer (some ⟨b, 0, none⟩))]) ∧ Below w.heap.size w w' := by
  have hF' := answers_open hF
  rcases hn with hn | hn
  all_goals
    go_enter Ybaf.func5, Ybaf.ntmps5
    go_wp2
    go_ret2
    exact ⟨_, rfl, (((Below.refl _ w).alloc (Nat.le_refl _) _).alloc (by simp) _).drew⟩

set_option maxHeartbeats 400000 in
theorem marshal_ok (i : Nat) (w : World) (hi : i < 4) (hT : Texts w) :
    Calls Ybaf.prog 5 #[.int .i64 i] w fun e w' => ∃ c, e = .returned (.tuple #[.slice (some ⟨w.heap.size, 0, none⟩) (evBytes i).length c, .nilIface]) ∧
      (∀ j (hj : j < (evBytes i).length), w'.cell? ⟨w.heap.size, j, none⟩ = some (.int .u8 ((evBytes i)[j].toNat : Int))) ∧ Below w.heap.size w w' ∧ w.heap.size < w'.heap.size := by
  have hc := hT i hi
  have hcv := run_bytes_of_string (P := Ybaf.prog) w 9 22 5 ⟨(evBytes i).toArray⟩ Ybaf.underlying9 Ybaf.underlying22 Ybaf.underlying5
  clear hT
  go_enter Ybaf.func5, Ybaf.ntmps5
  go_wp2
  go_ret2
  refine ⟨_, rfl, fun j hj => ?_, ((Below.refl _ w).alloc (Nat.le_refl _) _).drew, by simp⟩
  rw [World.cell?_drew, World.cell?_alloc_mark]
  simp [bytesRow, Array.getElem?_append, hj]

theorem back_ok {i b c : Nat} {w : World} (h : ∀ j (hj : j < (evBytes i).length), w.cell? ⟨b, j, none⟩ = some (.int .u8 ((evBytes i)[j].toNat : Int))) :
    (convert 22 9 (.slice (some ⟨b, 0, none⟩) (evBytes i).length c)).run Ybaf.prog w = .ok (.string ⟨(evBytes i).toArray⟩) w :=
  run_convert_bytes_back w 22 9 5 ⟨b, 0, none⟩ c (evBytes i) Ybaf.underlying22 Ybaf.underlying5 Ybaf.underlying9 (fun j hj => by
    rw [show (⟨b, 0, none⟩ : Addr).add j = ⟨b, j, none⟩ from by unfold Addr.add; split <;> simp_all]; exact h j hj)

set_option maxHeartbeats 400000 in
theorem table_bad (F : Interp) (n : Int) (w : World) (hF : F.answers w.tape) (hn : n < 0 ∨ 4 ≤ n) :
    Calls Ybaf.prog 3 #[.int .i64 n] w fun e w' => e = .returned (.bool true) ∧ Below w.heap.size w w' := by
  have hnil := fun w => Lib.run_eql_slice_nil (P := Ybaf.prog) w 22 5 none 0 0 0 0 Ybaf.underlying22
  have e0 : (n == 0) = false := by simp; omega
  have e1 : (n == 1) = false := by simp; omega
  have e2 : (n == 2) = false := by simp; omega
  have e3 : (n == 3) = false := by simp; omega
  go_enter Ybaf.func3, Ybaf.ntmps3
  go_wp2_with fail
  refine (marshal_bad F n _ hF hn).mono ?_
  rintro e w1 ⟨b, rfl, hb⟩
  go_wp2
  go_ret
  exact ⟨rfl, hb⟩

set_option maxHeartbeats 400000 in
theorem table_ok (i : Nat) (w : World) (hi : i < 4) (hT : Texts w) :
    Calls Ybaf.prog 3 #[.int .i64 i] w fun e w' => e = .returned (.bool true) ∧ Below w.heap.size w w' := by
  have HT : Hid (Texts w) := hT
  clear hT
  match i, hi with
  | 0, hi =>
    go_enter Ybaf.func3, Ybaf.ntmps3
    go_wp2_with fail
    refine (marshal_ok 0 _ hi HT.out).mono ?_
    rintro e w1 ⟨c, rfl, hc, hb, hz⟩
    have hbk : (convert 22 9 (.slice (some ⟨w.heap.size, 0, none⟩) (evBytes 0).length c)).run Ybaf.prog w1 = .ok (.string ⟨#[]⟩) w1 := back_ok hc
    clear hc
    go_wp2
    go_ret
    exact ⟨rfl, hb⟩
  | 1, hi =>
    go_enter Ybaf.func3, Ybaf.ntmps3
    go_wp2_with fail
    refine (marshal_ok 1 _ hi HT.out).mono ?_
    rintro e w1 ⟨c, rfl, hc, hb, hz⟩
    have hbk : (convert 22 9 (.slice (some ⟨w.heap.size, 0, none⟩) (evBytes 1).length c)).run Ybaf.prog w1 = .ok (.string ⟨#[115, 116, 97, 114, 116, 101, 100]⟩) w1 := back_ok hc
    clear hc
    go_wp2
    go_ret
    exact ⟨rfl, hb⟩
  | 2, hi =>
    go_enter Ybaf.func3, Ybaf.ntmps3
    go_wp2_with fail
    refine (marshal_ok 2 _ hi HT.out).mono ?_
    rintro e w1 ⟨c, rfl, hc, hb, hz⟩
    have hbk : (convert 22 9 (.slice (some ⟨w.heap.size, 0, none⟩) (evBytes 2).length c)).run Ybaf.prog w1 = .ok (.string ⟨#[99, 111, 109, 112, 108, 101, 116, 101, 100]⟩) w1 := back_ok hc
    clear hc
    go_wp2
    go_ret
    exact ⟨rfl, hb⟩
  | 3, hi =>
    go_enter Ybaf.func3, Ybaf.ntmps3
    go_wp2_with fail
    refine (marshal_ok 3 _ hi HT.out).mono ?_
    rintro e w1 ⟨c, rfl, hc, hb, hz⟩
    have hbk : (convert 22 9 (.slice (some ⟨w.heap.size, 0, none⟩) (evBytes 3).length c)).run Ybaf.prog w1 = .ok (.string ⟨#[115, 116, 111, 112, 112, 101, 100]⟩) w1 := back_ok hc
    clear hc
    go_wp2
    go_ret
    exact ⟨rfl, hb⟩
end Go.Proofs.YbulkuoFmt
