/-
  errors.Is at the one way that the law comes to (after the guide's worked text SentryIs.lean, at this program's numbers).
-/
import Derived.Test.YbulkxgFmtFacts
import Derived.WalkKit
import Derived.WalkSpells
import Derived.WalkLawsBesides
import Derived.LaidEql
import Derived.Stop.Asserts
import Derived.RowKitTokens
import Derived.Deep.QuietTactic
import Derived.BigQuiet
import Derived.WalkSmall
namespace Go.Proofs.YbulkxgFmt
open Go.RowKit Go.Extern.Stop Go.Stop Go.Extern

theorem isTypeOf (v : Value) (w : World) : (callFunc 10 #[.iface 120 v]).run Ybaf.prog w = .ok (.value (.iface 61 (.agg #[.pointer (some ⟨2, 120, none⟩)]))) w := by kernel_rfl
theorem isComparable (w : World) : (callFunc 55 #[.agg #[.pointer (some ⟨2, 120, none⟩)]]).run Ybaf.prog w = .ok (.value (.bool true)) w := by kernel_rfl
theorem isMethodComparable (v : Value) (w : World) : (Go.method 296 61 v "Comparable").run Ybaf.prog w = .ok (55, v) w := by kernel_rfl
theorem isComp : (Ybaf.prog.info? 120).map (·.comparable) = some true := by kernel_rfl
theorem isSize : (Ybaf.prog.info? 122).map (·.size) = some 1 := by kernel_rfl
theorem noIsW (v : Value) (xT : TypeId) (w : World) : (Instr.typeAssert (.iface 116 v) xT 63 true).run Ybaf.prog w = .ok (.tuple #[.nilIface, .bool false]) w := run_typeAssert_lacksB Ybaf.underlying63 (by kernel_rfl) (by kernel_rfl) v xT w
theorem hasUnwrapW (v : Value) (xT : TypeId) (w : World) : (Instr.typeAssert (.iface 116 v) xT 66 true).run Ybaf.prog w = .ok (.tuple #[.iface 116 v, .bool true]) w := run_typeAssert_hasB Ybaf.underlying66 (by kernel_rfl) v xT w
theorem methodUnwrap (v : Value) (w : World) : (Go.method 296 116 v "Unwrap").run Ybaf.prog w = .ok (75, v) w := by kernel_rfl

/-- errors.Is(e, x), e a *fmt.wrapError that wraps x itself: one Unwrap, then equal. -/
theorem is_wrap_same (pb : Nat) (b : Addr) (w : World) (h1 : w.cell? ⟨pb, 0 + 1, none⟩ = some (.iface 120 (.pointer (some b)))) :
    Calls Ybaf.prog 8 #[.iface 116 (.pointer (some ⟨pb, 0, none⟩)), .iface 120 (.pointer (some b))] w fun e w' => e = .returned (.bool true) ∧ w' = w := by
  obtain ⟨i, hi, hcmp⟩ := Option.map_eq_some_iff.1 isComp
  obtain ⟨j, hj, hjs⟩ := Option.map_eq_some_iff.1 isSize
  have tT := isTypeOf
  have cT := isComparable
  have mR := isMethodComparable
  have nW := noIsW
  have uW := hasUnwrapW
  have mU := methodUnwrap
  have heq := run_eql_iface_ptr_same (P := Ybaf.prog) w b Ybaf.underlying29 Ybaf.underlying120 hi hcmp hj
  have hty := run_eql_iface_types (P := Ybaf.prog) 116 120 (.pointer (some ⟨pb, 0, none⟩)) (.pointer (some b)) Ybaf.underlying29 (by decide) w
  go_enter Ybaf.func8, Ybaf.ntmps8
  go_wp2
  refine wp_loop_rounds 2 ?_
  rw [rounds_succ]
  go_wp2
  rw [rounds_succ]
  go_wp2
  go_ret
  exact ⟨rfl, rfl⟩

end Go.Proofs.YbulkxgFmt
