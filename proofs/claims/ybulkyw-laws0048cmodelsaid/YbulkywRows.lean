/-
  No cell of these rows narrows 'for every input' (looked for: loops, veiled, ifaces, maps, wideKeys, modest, calm, conditions, laid).
  DERIVED. THE GIVEN ROWS OF THIS SEAT. 2 by the template 'for every input the law returns true; each argument reads behind the call as it read before'; 0 by the template 'total and deterministic' (their statements: YbulkywTotals.lean).
  GIVEN WITH THE SEED: the statements are not yours to turn. If you find one false, say at which input.
  Laid BY PROGRAM, IN A SANDBOX (cutbox-rows.mjs): the forced cells as the released guide's own fill.sh prints them over the translation 5ba03fad1092ee4a… (all of the seat's roots in one cut). By AI agents, Wed Nov 11 2026. No macro, syntax, notation, axiom, sorry.
-/
import Derived.Test.YbulkywChecked
import GoSem.Claim
import GoSem.ClaimJoined
import GoSem.ClaimMapViews
import Derived.JoinedTies
import Derived.KernelRfl
namespace Go.Proofs.Ybulkyw
/- THE CELL 'sum', in the pinned program and in every row, IS THE sha256 OF THE DUMP (.gsa) THAT YbulkywProg.lean LOADS. Nothing in Lean hashes anything: it is a label: what it is worth is what the hold of that sum in a sandbox is worth. -/
noncomputable def Yba.pinned : Pinned := { name := "ybulkyw", sum := "5ba03fad1092ee4a7821f64c1a47b0cf91b0f692ca8e40944f2fe9a70f025999", checked := Yba.checked }
namespace Rows
def none {H : Type} : Left H := { results := [], args := [] }

/-- 'semver.LawS0048CModel': WHATEVER THE INPUT: true; the input reads as it did. -/
def lawS0048CModelSpec : ChangeSpec := { name := "lawS0048CModel", fn := fun _ => fun
  | [d1, d2] => { results := [.lit (.bool true)], args := [d1, d2] }
  | _ => none }
def lawS0048CModelRow : OpenClaim := { program := "ybulkyw", sum := "5ba03fad1092ee4a7821f64c1a47b0cf91b0f692ca8e40944f2fe9a70f025999", func := "example.com/verdictum/verdictum/pkg/ecosystem/semver.LawS0048CModel", spec := "lawS0048CModel", inPlace := ["internal/bytealg.abigen_runtime_cmpstring"], unfollowed := true, recurses := true, apart := false }
def LawS0048CModelSaid : Prop := lawS0048CModelRow.holds Yba.pinned (OpenSpec.ofChange lawS0048CModelSpec)

/-- ITS FALSE NEIGHBOUR: 'it returns false'. Refute it at one input. -/
def lawS0048CModelWrong : ChangeSpec := { name := "lawS0048CModel", fn := fun _ => fun
  | [d1, d2] => { results := [.lit (.bool false)], args := [d1, d2] }
  | _ => none }
def LawS0048CModelWrongFalsely : Prop := lawS0048CModelRow.holds Yba.pinned (OpenSpec.ofChange lawS0048CModelWrong)

/-- 'semver.LawS0048CAntisym': WHATEVER THE INPUT: true; the input reads as it did. -/
def lawS0048CAntisymSpec : ChangeSpec := { name := "lawS0048CAntisym", fn := fun _ => fun
  | [d1, d2] => { results := [.lit (.bool true)], args := [d1, d2] }
  | _ => none }
def lawS0048CAntisymRow : OpenClaim := { program := "ybulkyw", sum := "5ba03fad1092ee4a7821f64c1a47b0cf91b0f692ca8e40944f2fe9a70f025999", func := "example.com/verdictum/verdictum/pkg/ecosystem/semver.LawS0048CAntisym", spec := "lawS0048CAntisym", inPlace := ["internal/bytealg.abigen_runtime_cmpstring"], unfollowed := true, recurses := true, apart := false }
def LawS0048CAntisymSaid : Prop := lawS0048CAntisymRow.holds Yba.pinned (OpenSpec.ofChange lawS0048CAntisymSpec)

/-- ITS FALSE NEIGHBOUR: 'it returns false'. Refute it at one input. -/
def lawS0048CAntisymWrong : ChangeSpec := { name := "lawS0048CAntisym", fn := fun _ => fun
  | [d1, d2] => { results := [.lit (.bool false)], args := [d1, d2] }
  | _ => none }
def LawS0048CAntisymWrongFalsely : Prop := lawS0048CAntisymRow.holds Yba.pinned (OpenSpec.ofChange lawS0048CAntisymWrong)

end Rows
end Go.Proofs.Ybulkyw
