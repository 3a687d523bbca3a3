/-
  nodeBytes by its contracts.
-/
import Derived.Test.YbulkxgRows
import Derived.WalkKit
import Derived.WalkSpells
import Derived.WalkLawsBesides
namespace Go.Proofs.Ybulkxg
open Go.RowKit

/-! What the type switch finds. -/
@[go_sem] theorem as25_25 (v : Value) (w : World) : (Instr.typeAssert (.iface 25 v) 24 25 true).run Yba.prog w = .ok (.tuple #[v, .bool true]) w := by kernel_rfl
@[go_sem] theorem as25_26 (v : Value) (w : World) : (Instr.typeAssert (.iface 25 v) 24 26 true).run Yba.prog w = .ok (.tuple #[.pointer none, .bool false]) w := by kernel_rfl
@[go_sem] theorem as25_27 (v : Value) (w : World) : (Instr.typeAssert (.iface 25 v) 24 27 true).run Yba.prog w = .ok (.tuple #[.pointer none, .bool false]) w := by kernel_rfl
@[go_sem] theorem as25_34 (v : Value) (w : World) : (Instr.typeAssert (.iface 25 v) 24 34 true).run Yba.prog w = .ok (.tuple #[.agg #[.int .i64 0, .int .i64 0], .bool false]) w := by kernel_rfl
@[go_sem] theorem as26_25 (v : Value) (w : World) : (Instr.typeAssert (.iface 26 v) 24 25 true).run Yba.prog w = .ok (.tuple #[.string ⟨#[]⟩, .bool false]) w := by kernel_rfl
@[go_sem] theorem as26_26 (v : Value) (w : World) : (Instr.typeAssert (.iface 26 v) 24 26 true).run Yba.prog w = .ok (.tuple #[v, .bool true]) w := by kernel_rfl
@[go_sem] theorem as26_27 (v : Value) (w : World) : (Instr.typeAssert (.iface 26 v) 24 27 true).run Yba.prog w = .ok (.tuple #[.pointer none, .bool false]) w := by kernel_rfl
@[go_sem] theorem as26_34 (v : Value) (w : World) : (Instr.typeAssert (.iface 26 v) 24 34 true).run Yba.prog w = .ok (.tuple #[.agg #[.int .i64 0, .int .i64 0], .bool false]) w := by kernel_rfl
@[go_sem] theorem as27_25 (v : Value) (w : World) : (Instr.typeAssert (.iface 27 v) 24 25 true).run Yba.prog w = .ok (.tuple #[.string ⟨#[]⟩, .bool false]) w := by kernel_rfl
@[go_sem] theorem as27_26 (v : Value) (w : World) : (Instr.typeAssert (.iface 27 v) 24 26 true).run Yba.prog w = .ok (.tuple #[.pointer none, .bool false]) w := by kernel_rfl
@[go_sem] theorem as27_27 (v : Value) (w : World) : (Instr.typeAssert (.iface 27 v) 24 27 true).run Yba.prog w = .ok (.tuple #[v, .bool true]) w := by kernel_rfl
@[go_sem] theorem as27_34 (v : Value) (w : World) : (Instr.typeAssert (.iface 27 v) 24 34 true).run Yba.prog w = .ok (.tuple #[.agg #[.int .i64 0, .int .i64 0], .bool false]) w := by kernel_rfl
@[go_sem] theorem as34_25 (v : Value) (w : World) : (Instr.typeAssert (.iface 34 v) 24 25 true).run Yba.prog w = .ok (.tuple #[.string ⟨#[]⟩, .bool false]) w := by kernel_rfl
@[go_sem] theorem as34_26 (v : Value) (w : World) : (Instr.typeAssert (.iface 34 v) 24 26 true).run Yba.prog w = .ok (.tuple #[.pointer none, .bool false]) w := by kernel_rfl
@[go_sem] theorem as34_27 (v : Value) (w : World) : (Instr.typeAssert (.iface 34 v) 24 27 true).run Yba.prog w = .ok (.tuple #[.pointer none, .bool false]) w := by kernel_rfl
@[go_sem] theorem as34_34 (v : Value) (w : World) : (Instr.typeAssert (.iface 34 v) 24 34 true).run Yba.prog w = .ok (.tuple #[v, .bool true]) w := by kernel_rfl
@[go_sem] theorem as35_25 (v : Value) (w : World) : (Instr.typeAssert (.iface 35 v) 24 25 true).run Yba.prog w = .ok (.tuple #[.string ⟨#[]⟩, .bool false]) w := by kernel_rfl
@[go_sem] theorem as35_26 (v : Value) (w : World) : (Instr.typeAssert (.iface 35 v) 24 26 true).run Yba.prog w = .ok (.tuple #[.pointer none, .bool false]) w := by kernel_rfl
@[go_sem] theorem as35_27 (v : Value) (w : World) : (Instr.typeAssert (.iface 35 v) 24 27 true).run Yba.prog w = .ok (.tuple #[.pointer none, .bool false]) w := by kernel_rfl
@[go_sem] theorem as35_34 (v : Value) (w : World) : (Instr.typeAssert (.iface 35 v) 24 34 true).run Yba.prog w = .ok (.tuple #[.agg #[.int .i64 0, .int .i64 0], .bool false]) w := by kernel_rfl
@[go_sem] theorem as36_25 (v : Value) (w : World) : (Instr.typeAssert (.iface 36 v) 24 25 true).run Yba.prog w = .ok (.tuple #[.string ⟨#[]⟩, .bool false]) w := by kernel_rfl
@[go_sem] theorem as36_26 (v : Value) (w : World) : (Instr.typeAssert (.iface 36 v) 24 26 true).run Yba.prog w = .ok (.tuple #[.pointer none, .bool false]) w := by kernel_rfl
@[go_sem] theorem as36_27 (v : Value) (w : World) : (Instr.typeAssert (.iface 36 v) 24 27 true).run Yba.prog w = .ok (.tuple #[.pointer none, .bool false]) w := by kernel_rfl
@[go_sem] theorem as36_34 (v : Value) (w : World) : (Instr.typeAssert (.iface 36 v) 24 34 true).run Yba.prog w = .ok (.tuple #[.agg #[.int .i64 0, .int .i64 0], .bool false]) w := by kernel_rfl
@[go_sem] theorem asnil_25 (w : World) : (Instr.typeAssert .nilIface 24 25 true).run Yba.prog w = .ok (.tuple #[.string ⟨#[]⟩, .bool false]) w := by kernel_rfl
@[go_sem] theorem asnil_26 (w : World) : (Instr.typeAssert .nilIface 24 26 true).run Yba.prog w = .ok (.tuple #[.pointer none, .bool false]) w := by kernel_rfl
@[go_sem] theorem asnil_27 (w : World) : (Instr.typeAssert .nilIface 24 27 true).run Yba.prog w = .ok (.tuple #[.pointer none, .bool false]) w := by kernel_rfl
@[go_sem] theorem asnil_34 (w : World) : (Instr.typeAssert .nilIface 24 34 true).run Yba.prog w = .ok (.tuple #[.agg #[.int .i64 0, .int .i64 0], .bool false]) w := by kernel_rfl

theorem node_text (v : ByteArray) (w : World) : Calls Yba.prog 5 #[.iface 25 (.string v)] w fun e w' => e = .returned (.int .i64 48) ∧ w' = w := by
  go_enter Yba.func5, Yba.ntmps5
  go_wp2
  go_ret
  exact ⟨rfl, rfl⟩
theorem node_ptext (a : Addr) (w : World) : Calls Yba.prog 5 #[.iface 26 (.pointer (some a))] w fun e w' => e = .returned (.int .i64 48) ∧ w' = w := by
  go_enter Yba.func5, Yba.ntmps5
  go_wp2
  go_ret
  exact ⟨rfl, rfl⟩
theorem node_nil (w : World) : Calls Yba.prog 5 #[.nilIface] w fun e w' => e = .returned (.int .i64 32) ∧ w' = w := by
  go_enter Yba.func5, Yba.ntmps5
  go_wp2
  go_ret
  exact ⟨rfl, rfl⟩
theorem node_call (b n c : Nat) (o : Option Addr) (w : World) (hn : n ≤ 300) (h : w.cell? ⟨b, 1, none⟩ = some (.slice o n c)) : Calls Yba.prog 5 #[.iface 27 (.pointer (some ⟨b, 0, none⟩))] w fun e w' => e = .returned (.int .i64 (112 + 48 * n)) ∧ w' = w := by
  go_enter Yba.func5, Yba.ntmps5
  go_wp2
  go_ret
  exact ⟨rfl, rfl⟩
theorem node_outer (x y : Int) (w : World) : Calls Yba.prog 5 #[.iface 34 (.agg #[.int .i64 x, .int .i64 y])] w fun e w' => e = .returned (.int .i64 48) ∧ Below w.heap.size w w' := by
  go_enter Yba.func5, Yba.ntmps5
  go_wp2
  go_ret
  exact ⟨rfl, (Below.refl _ w).alloc (Nat.le_refl _) _⟩
theorem node_param (x : Int) (w : World) : Calls Yba.prog 5 #[.iface 35 (.int .i64 x)] w fun e w' => e = .returned (.int .i64 32) ∧ w' = w := by
  go_enter Yba.func5, Yba.ntmps5
  go_wp2
  go_ret
  exact ⟨rfl, rfl⟩
theorem node_pouter (a : Addr) (w : World) : Calls Yba.prog 5 #[.iface 36 (.pointer (some a))] w fun e w' => e = .returned (.int .i64 32) ∧ w' = w := by
  go_enter Yba.func5, Yba.ntmps5
  go_wp2
  go_ret
  exact ⟨rfl, rfl⟩
end Go.Proofs.Ybulkxg
