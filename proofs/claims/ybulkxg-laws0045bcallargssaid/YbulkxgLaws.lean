/-
  The two laws, walked.
-/
import Derived.Test.YbulkxgNode
import Derived.Deep.OwnRows
import Derived.OpenShut
namespace Go.Proofs.Ybulkxg
open Go.RowKit Go.Deep

theorem info57 : (Yba.prog.info? 57).map (fun i => (i.zero, i.size, i.bytes)) = some (some (.slice none 0 0), 1, 24) := by kernel_rfl
theorem make_args (k : Nat) (hk : k ≤ 300) (w : World) : (Instr.makeSlice 28 (.int .i64 (k : Int)) (.int .i64 (k : Int))).run Yba.prog w = .ok (.slice (some ⟨w.heap.size, 0, none⟩) k k) (w.alloc (.cells (madeCells #[.slice none 0 0] k) 57)) :=
  run_make_row' 28 57 (.slice none 0 0) 24 Yba.underlying28 info57 rfl .i64 .i64 k (by omega) (by omega) w

set_option maxHeartbeats 400000 in
theorem args_walk (a0 : ByteArray) (a1 : Int) (k : Nat) (w : World) (h0 : 0 ≤ a1) (h1 : a1 ≤ 65535) (hk : a1 % 300 = k) (_hk3 : k ≤ 299) :
    Calls Yba.prog 4 #[.string a0, .int .u16 a1] w fun e w' => e = .returned (.bool true) ∧ Below w.heap.size w w' := by
  have hmk := make_args k (by omega)
  go_enter Yba.func4, Yba.ntmps4
  go_wp2_with fail
  refine (node_call _ k k (some ⟨w.heap.size + 1, 0, none⟩) _ (by omega) ?_).mono ?_
  · go_simp
  rintro e w' ⟨rfl, rfl⟩
  go_wp2_with fail
  refine (node_call _ 0 0 none _ (by omega) ?_).mono ?_
  · go_simp
  rintro e w' ⟨rfl, rfl⟩
  go_wp2_with fail
  refine (node_call _ 0 0 none _ (by omega) ?_).mono ?_
  · go_simp
  rintro e w' ⟨rfl, rfl⟩
  go_wp2
  go_ret
  exact ⟨rfl, (((Below.refl _ _).alloc (Nat.le_refl _) _).alloc (by simp) _).alloc (by simp; omega) _⟩

set_option maxHeartbeats 800000 in
theorem table_walk (a0 : Int) (a1 : ByteArray) (a2 a3 a4 a5 : Int) (k : Nat) (w : World) (h0 : 0 ≤ a0) (h1 : a0 ≤ 255) (h2 : 0 ≤ a2) (h3 : a2 ≤ 65535) (hk : a2 % 300 = k) (_hk3 : k ≤ 299) :
    Calls Yba.prog 3 #[.int .u8 a0, .string a1, .int .u16 a2, .int .i64 a3, .int .i64 a4, .int .i64 a5] w fun e w' => e = .returned (.bool true) ∧ Below w.heap.size w w' := by
  have hmk := make_args k (by omega)
  obtain ⟨s, hs⟩ : ∃ s : Nat, a0 % 7 = s := ⟨(a0 % 7).toNat, by omega⟩
  have hs7 : s < 7 := by omega
  match s, hs7 with
  | 0, _ =>
    go_enter Yba.func3, Yba.ntmps3
    go_wp2_with (go_at_call 5; refine (node_text _ _).mono ?_; rintro e w' ⟨rfl, rfl⟩)
    go_ret
    exact ⟨rfl, Below.refl _ _⟩
  | 1, _ =>
    go_enter Yba.func3, Yba.ntmps3
    go_wp2_with (go_at_call 5; refine (node_ptext _ _).mono ?_; rintro e w' ⟨rfl, rfl⟩)
    go_ret
    exact ⟨rfl, (Below.refl _ _).alloc (Nat.le_refl _) _⟩
  | 2, _ =>
    go_enter Yba.func3, Yba.ntmps3
    go_wp2_with fail
    refine (node_call _ k k (some ⟨w.heap.size, 0, none⟩) _ (by omega) ?_).mono ?_
    · go_simp
    rintro e w' ⟨rfl, rfl⟩
    go_wp2
    go_ret
    exact ⟨rfl, ((Below.refl _ _).alloc (Nat.le_refl _) _).alloc (by simp) _⟩
  | 3, _ =>
    go_enter Yba.func3, Yba.ntmps3
    go_wp2_with (go_at_call 5; refine (node_outer _ _ _).mono ?_; rintro e w' ⟨rfl, hb⟩)
    go_ret
    exact ⟨rfl, hb⟩
  | 4, _ =>
    go_enter Yba.func3, Yba.ntmps3
    go_wp2_with (go_at_call 5; refine (node_param _ _).mono ?_; rintro e w' ⟨rfl, rfl⟩)
    go_ret
    exact ⟨rfl, Below.refl _ _⟩
  | 5, _ =>
    go_enter Yba.func3, Yba.ntmps3
    go_wp2_with (go_at_call 5; refine (node_nil _).mono ?_; rintro e w' ⟨rfl, rfl⟩)
    go_ret
    exact ⟨rfl, Below.refl _ _⟩
  | 6, _ =>
    go_enter Yba.func3, Yba.ntmps3
    go_wp2_with (go_at_call 5; refine (node_pouter _ _).mono ?_; rintro e w' ⟨rfl, rfl⟩)
    go_ret
    exact ⟨rfl, (Below.refl _ _).alloc (Nat.le_refl _) _⟩
end Go.Proofs.Ybulkxg
