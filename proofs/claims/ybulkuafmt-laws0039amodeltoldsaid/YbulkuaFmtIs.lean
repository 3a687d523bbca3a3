/-
  errors.Is BY ITS CONTRACTS, at this program's numbers (after the guide's worked text SentryIs.lean): 25: error · 55: *errors.errorString · 57: errors.errorString · 42: *fmt.wrapError · 44: reflectlite's rtype · 46, 49, 51: the three interfaces that errors.is asserts · functions: 5: errors.Is · 10: reflectlite.TypeOf · 38: (rtype).Comparable · 34: (*fmt.wrapError).Unwrap.
-/
import Derived.Test.YbulkuaFmtFacts
import Derived.WalkKit
import Derived.LaidEql
import Derived.Stop.Asserts
import Derived.RowKitTokens
namespace Go.Proofs.YbulkuaFmt
open Go.RowKit Go.Extern.Stop Go.Stop Go.Extern

theorem isTypeOf (v : Value) (w : World) : (callFunc 10 #[.iface 55 v]).run Ybaf.prog w = .ok (.value (.iface 44 (.agg #[.pointer (some ⟨2, 55, none⟩)]))) w := by kernel_rfl
theorem isComparable (w : World) : (callFunc 38 #[.agg #[.pointer (some ⟨2, 55, none⟩)]]).run Ybaf.prog w = .ok (.value (.bool true)) w := by kernel_rfl
theorem isMethodComparable (v : Value) (w : World) : (Go.method 199 44 v "Comparable").run Ybaf.prog w = .ok (38, v) w := by kernel_rfl
theorem isComp : (Ybaf.prog.info? 55).map (·.comparable) = some true := by kernel_rfl
theorem isSize : (Ybaf.prog.info? 57).map (·.size) = some 1 := by kernel_rfl

theorem noIsE (v : Value) (xT : TypeId) (w : World) : (Instr.typeAssert (.iface 55 v) xT 46 true).run Ybaf.prog w = .ok (.tuple #[.nilIface, .bool false]) w := run_typeAssert_lacksB Ybaf.underlying46 (by kernel_rfl) (by kernel_rfl) v xT w
theorem noUnwrapE (v : Value) (xT : TypeId) (w : World) : (Instr.typeAssert (.iface 55 v) xT 49 true).run Ybaf.prog w = .ok (.tuple #[.nilIface, .bool false]) w := run_typeAssert_lacksB Ybaf.underlying49 (by kernel_rfl) (by kernel_rfl) v xT w
theorem noUnwrapsE (v : Value) (xT : TypeId) (w : World) : (Instr.typeAssert (.iface 55 v) xT 51 true).run Ybaf.prog w = .ok (.tuple #[.nilIface, .bool false]) w := run_typeAssert_lacksB Ybaf.underlying51 (by kernel_rfl) (by kernel_rfl) v xT w
theorem noIsW (v : Value) (xT : TypeId) (w : World) : (Instr.typeAssert (.iface 42 v) xT 46 true).run Ybaf.prog w = .ok (.tuple #[.nilIface, .bool false]) w := run_typeAssert_lacksB Ybaf.underlying46 (by kernel_rfl) (by kernel_rfl) v xT w
theorem hasUnwrapW (v : Value) (xT : TypeId) (w : World) : (Instr.typeAssert (.iface 42 v) xT 49 true).run Ybaf.prog w = .ok (.tuple #[.iface 42 v, .bool true]) w := run_typeAssert_hasB Ybaf.underlying49 (by kernel_rfl) v xT w
theorem methodUnwrap (v : Value) (w : World) : (Go.method 199 42 v "Unwrap").run Ybaf.prog w = .ok (34, v) w := by kernel_rfl

/-- errors.Is(x, y), two different pointers to errors.errorString: neither has Is nor Unwrap: false. -/
theorem is_other (a b : Addr) (ca cb : Array Value) (ta tb : TypeId) (w : World) (hne : a ≠ b) (ha : w.heap[a.block]? = some (.cells ca ta (0, 0))) (hb : w.heap[b.block]? = some (.cells cb tb (0, 0))) :
    Calls Ybaf.prog 5 #[.iface 55 (.pointer (some a)), .iface 55 (.pointer (some b))] w fun e w' => e = .returned (.bool false) ∧ w' = w := by
  obtain ⟨i, hi, hcmp⟩ := Option.map_eq_some_iff.1 isComp
  obtain ⟨j, hj, hjs⟩ := Option.map_eq_some_iff.1 isSize
  have tT := isTypeOf
  have cT := isComparable
  have mR := isMethodComparable
  have nE := noIsE
  have uE := noUnwrapE
  have vE := noUnwrapsE
  have heq := run_eql_iface_ptr_other (P := Ybaf.prog) w Ybaf.underlying25 Ybaf.underlying55 hi hcmp hj (by rw [hjs]; decide) hne ha hb
  go_enter Ybaf.func5, Ybaf.ntmps5
  go_wp2
  refine wp_loop_rounds 1 ?_
  rw [rounds_succ]
  go_wp2
  go_ret
  exact ⟨rfl, rfl⟩

/-- errors.Is(e, x), e a *fmt.wrapError that wraps a *fmt.wrapError that wraps x itself. -/
theorem is_wrap2_same (pb po qb qo : Nat) (b : Addr) (w : World) (h0 : w.cell? ⟨pb, po + 1, none⟩ = some (.iface 42 (.pointer (some ⟨qb, qo, none⟩)))) (h1 : w.cell? ⟨qb, qo + 1, none⟩ = some (.iface 55 (.pointer (some b)))) :
    Calls Ybaf.prog 5 #[.iface 42 (.pointer (some ⟨pb, po, none⟩)), .iface 55 (.pointer (some b))] w fun e w' => e = .returned (.bool true) ∧ w' = w := by
  obtain ⟨i, hi, hcmp⟩ := Option.map_eq_some_iff.1 isComp
  obtain ⟨j, hj, hjs⟩ := Option.map_eq_some_iff.1 isSize
  have tT := isTypeOf
  have cT := isComparable
  have mR := isMethodComparable
  have nE := noIsE
  have uE := noUnwrapE
  have vE := noUnwrapsE
  have nW := noIsW
  have uW := hasUnwrapW
  have mU := methodUnwrap
  have heq := run_eql_iface_ptr_same (P := Ybaf.prog) w b Ybaf.underlying25 Ybaf.underlying55 hi hcmp hj
  have hty := fun pb po => run_eql_iface_types (P := Ybaf.prog) 42 55 (.pointer (some ⟨pb, po, none⟩)) (.pointer (some b)) Ybaf.underlying25 (by decide) w
  go_enter Ybaf.func5, Ybaf.ntmps5
  go_wp2
  refine wp_loop_rounds 3 ?_
  rw [rounds_succ]
  go_wp2
  rw [rounds_succ]
  go_wp2
  rw [rounds_succ]
  go_wp2
  go_ret
  exact ⟨rfl, rfl⟩

/-- errors.Is(e, x), e a *fmt.wrapError that wraps a *fmt.wrapError that wraps another error of errors.New's make. -/
theorem is_wrap2_other (pb po qb qo : Nat) (b a : Addr) (ca cb : Array Value) (ta tb : TypeId) (w : World) (h0 : w.cell? ⟨pb, po + 1, none⟩ = some (.iface 42 (.pointer (some ⟨qb, qo, none⟩)))) (h1 : w.cell? ⟨qb, qo + 1, none⟩ = some (.iface 55 (.pointer (some a)))) (hne : a ≠ b)
    (ha : w.heap[a.block]? = some (.cells ca ta (0, 0))) (hb : w.heap[b.block]? = some (.cells cb tb (0, 0))) :
    Calls Ybaf.prog 5 #[.iface 42 (.pointer (some ⟨pb, po, none⟩)), .iface 55 (.pointer (some b))] w fun e w' => e = .returned (.bool false) ∧ w' = w := by
  obtain ⟨i, hi, hcmp⟩ := Option.map_eq_some_iff.1 isComp
  obtain ⟨j, hj, hjs⟩ := Option.map_eq_some_iff.1 isSize
  have tT := isTypeOf
  have cT := isComparable
  have mR := isMethodComparable
  have nE := noIsE
  have uE := noUnwrapE
  have vE := noUnwrapsE
  have nW := noIsW
  have uW := hasUnwrapW
  have mU := methodUnwrap
  have heq := run_eql_iface_ptr_other (P := Ybaf.prog) w Ybaf.underlying25 Ybaf.underlying55 hi hcmp hj (by rw [hjs]; decide) hne ha hb
  have hty := fun pb po => run_eql_iface_types (P := Ybaf.prog) 42 55 (.pointer (some ⟨pb, po, none⟩)) (.pointer (some b)) Ybaf.underlying25 (by decide) w
  go_enter Ybaf.func5, Ybaf.ntmps5
  go_wp2
  refine wp_loop_rounds 3 ?_
  rw [rounds_succ]
  go_wp2
  rw [rounds_succ]
  go_wp2
  rw [rounds_succ]
  go_wp2
  go_ret
  exact ⟨rfl, rfl⟩

end Go.Proofs.YbulkuaFmt
