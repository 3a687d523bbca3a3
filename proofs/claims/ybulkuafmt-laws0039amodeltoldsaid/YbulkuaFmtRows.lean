/-
  NARROWER THAN 'FOR EVERY INPUT', by the rows' own cells (each row's printed sentence says how): LawS0039AModel: ifaces, laid.
  DERIVED. THE GIVEN ROWS OF THIS SEAT. 1 by the template 'for every input the law returns true; each argument reads behind the call as it read before'; 0 by the template 'total and deterministic' (their statements: YbulkuaFmtTotals.lean).
  GIVEN WITH THE SEED: the statements are not yours to turn. If you find one false, say at which input.
  Laid BY PROGRAM, IN A SANDBOX (cutbox-rows.mjs): the forced cells as the released guide's own fill.sh prints them over the translation 84d422ca82ef53b2… (all of the seat's roots in one cut). By AI agents, Wed Nov 11 2026. No macro, syntax, notation, axiom, sorry.
-/
import Derived.Test.YbulkuaFmtChecked
import GoSem.Claim
import GoSem.ClaimJoined
import GoSem.ClaimMapViews
import Derived.JoinedTies
import Derived.KernelRfl
namespace Go.Proofs.YbulkuaFmt
/- THE CELL 'sum', in the pinned program and in every row, IS THE sha256 OF THE DUMP (.gsa) THAT YbulkuaFmtProg.lean LOADS. Nothing in Lean hashes anything: it is a label: what it is worth is what the hold of that sum in a sandbox is worth. -/
noncomputable def Ybaf.pinned : Pinned := { name := "ybulkuafmt", sum := "84d422ca82ef53b21957536e6f9a5801859689352958f0e86c40306f2c2b3fcf", checked := Ybaf.checked }
namespace Rows
def none {H : Type} : Left H := { results := [], args := [] }

/- WHAT THE LISTED PACKAGE-LEVEL VARIABLES READ AS WHEN THE CALL BEGINS. Each datum BY PROGRAM (the guide's laid-datum.mjs) off the statement by which the dump's own 'gosem.cut.vars' lays the variable. In a bare row this is a premise. The card (YbulkuaFmtCards.lean) ties it to the program's text. -/
def laid_example_com_zhaomu_zhaomu_ErrPlaces {H : Type} : DataW H := .iface "*errors.errorString" (.ptr (.agg [.lit (.string [116, 111, 111, 32, 109, 97, 110, 121, 32, 100, 101, 99, 105, 109, 97, 108, 115])]))
def laid_example_com_zhaomu_zhaomu_ErrRange {H : Type} : DataW H := .iface "*errors.errorString" (.ptr (.agg [.lit (.string [111, 117, 116, 32, 111, 102, 32, 114, 97, 110, 103, 101])]))

/-- 'zhaomu.LawS0039AModel': WHATEVER THE INPUT: true; the input reads as it did. -/
def lawS0039AModelSpec : ChangeSpec := { name := "lawS0039AModel", vars := ["example.com/zhaomu/zhaomu.ErrPlaces", "example.com/zhaomu/zhaomu.ErrRange"], fn := fun _ => fun
  | [d1, d2, d3, d4, g1, g2] => { results := [.lit (.bool true)], args := [d1, d2, d3, d4], vars := [g1, g2] }
  | _ => none }
def lawS0039AModelRow : OpenClaim := { program := "ybulkuafmt", sum := "84d422ca82ef53b21957536e6f9a5801859689352958f0e86c40306f2c2b3fcf", func := "example.com/zhaomu/zhaomu.LawS0039AModel", spec := "lawS0039AModel", stops := ["fmt.errorf, its operands' methods called"], inPlace := ["fmt.errorf", "internal/reflectlite.TypeOf"], unfollowed := true, recurses := true, named := ["example.com/zhaomu/zhaomu.ErrPlaces", "example.com/zhaomu/zhaomu.ErrRange"], ifaces := true, apart := false, laid := [("example.com/zhaomu/zhaomu.ErrPlaces", laid_example_com_zhaomu_zhaomu_ErrPlaces), ("example.com/zhaomu/zhaomu.ErrRange", laid_example_com_zhaomu_zhaomu_ErrRange)] }
/-- NO THEOREM (fmt's text is open here; it may be false): for the released tool's asking of the row's closed facts alone. THE STATEMENT IS 'LawS0039AModelToldSaid' (YbulkuaFmtCards.lean). -/
def LawS0039AModelFormAsk : Prop := lawS0039AModelRow.holds Ybaf.pinned (OpenSpec.ofChange lawS0039AModelSpec)

/-- ITS FALSE NEIGHBOUR: 'it returns false'. Refute it at one input. -/
def lawS0039AModelWrong : ChangeSpec := { name := "lawS0039AModel", vars := ["example.com/zhaomu/zhaomu.ErrPlaces", "example.com/zhaomu/zhaomu.ErrRange"], fn := fun _ => fun
  | [d1, d2, d3, d4, g1, g2] => { results := [.lit (.bool false)], args := [d1, d2, d3, d4], vars := [g1, g2] }
  | _ => none }
def LawS0039AModelWrongFormAsk : Prop := lawS0039AModelRow.holds Ybaf.pinned (OpenSpec.ofChange lawS0039AModelWrong)

end Rows
end Go.Proofs.YbulkuaFmt
