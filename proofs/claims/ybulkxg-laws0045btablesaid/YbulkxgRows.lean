/-
  No cell of these rows narrows 'for every input' (looked for: loops, veiled, ifaces, maps, wideKeys, modest, calm, conditions, laid).
  DERIVED. THE GIVEN ROWS OF THIS SEAT. 2 by the template 'for every input the law returns true; each argument reads behind the call as it read before'; 0 by the template 'total and deterministic' (their statements: YbulkxgTotals.lean).
  GIVEN WITH THE SEED: the statements are not yours to turn. If you find one false, say at which input.
  Laid BY PROGRAM, IN A SANDBOX (cutbox-rows.mjs): the forced cells as the released guide's own fill.sh prints them over the translation 2aeb7f0d11da18e6… (all of the seat's roots in one cut). By AI agents, Wed Nov 11 2026. No macro, syntax, notation, axiom, sorry.
-/
import Derived.Test.YbulkxgChecked
import GoSem.Claim
import GoSem.ClaimJoined
import GoSem.ClaimMapViews
import Derived.JoinedTies
import Derived.KernelRfl
namespace Go.Proofs.Ybulkxg
/- THE CELL 'sum', in the pinned program and in every row, IS THE sha256 OF THE DUMP (.gsa) THAT YbulkxgProg.lean LOADS. Nothing in Lean hashes anything: it is a label: what it is worth is what the hold of that sum in a sandbox is worth. -/
noncomputable def Yba.pinned : Pinned := { name := "ybulkxg", sum := "2aeb7f0d11da18e603dd1a280f0f1931bcaff972fdf49e2dc1a3b1bf378d7633", checked := Yba.checked }
namespace Rows
def none {H : Type} : Left H := { results := [], args := [] }

/-- 'eval.LawS0045BTable': WHATEVER THE INPUT: true; the input reads as it did. -/
def lawS0045BTableSpec : ChangeSpec := { name := "lawS0045BTable", fn := fun _ => fun
  | [d1, d2, d3, d4, d5, d6] => { results := [.lit (.bool true)], args := [d1, d2, d3, d4, d5, d6] }
  | _ => none }
def lawS0045BTableRow : OpenClaim := { program := "ybulkxg", sum := "2aeb7f0d11da18e603dd1a280f0f1931bcaff972fdf49e2dc1a3b1bf378d7633", func := "example.com/stamp-press/stamp-press/internal/eval.LawS0045BTable", spec := "lawS0045BTable", apart := false }
def LawS0045BTableSaid : Prop := lawS0045BTableRow.holds Yba.pinned (OpenSpec.ofChange lawS0045BTableSpec)

/-- ITS FALSE NEIGHBOUR: 'it returns false'. Refute it at one input. -/
def lawS0045BTableWrong : ChangeSpec := { name := "lawS0045BTable", fn := fun _ => fun
  | [d1, d2, d3, d4, d5, d6] => { results := [.lit (.bool false)], args := [d1, d2, d3, d4, d5, d6] }
  | _ => none }
def LawS0045BTableWrongFalsely : Prop := lawS0045BTableRow.holds Yba.pinned (OpenSpec.ofChange lawS0045BTableWrong)

/-- 'eval.LawS0045BCallArgs': WHATEVER THE INPUT: true; the input reads as it did. -/
def lawS0045BCallArgsSpec : ChangeSpec := { name := "lawS0045BCallArgs", fn := fun _ => fun
  | [d1, d2] => { results := [.lit (.bool true)], args := [d1, d2] }
  | _ => none }
def lawS0045BCallArgsRow : OpenClaim := { program := "ybulkxg", sum := "2aeb7f0d11da18e603dd1a280f0f1931bcaff972fdf49e2dc1a3b1bf378d7633", func := "example.com/stamp-press/stamp-press/internal/eval.LawS0045BCallArgs", spec := "lawS0045BCallArgs", apart := false }
def LawS0045BCallArgsSaid : Prop := lawS0045BCallArgsRow.holds Yba.pinned (OpenSpec.ofChange lawS0045BCallArgsSpec)

/-- ITS FALSE NEIGHBOUR: 'it returns false'. Refute it at one input. -/
def lawS0045BCallArgsWrong : ChangeSpec := { name := "lawS0045BCallArgs", fn := fun _ => fun
  | [d1, d2] => { results := [.lit (.bool false)], args := [d1, d2] }
  | _ => none }
def LawS0045BCallArgsWrongFalsely : Prop := lawS0045BCallArgsRow.holds Yba.pinned (OpenSpec.ofChange lawS0045BCallArgsWrong)

end Rows
end Go.Proofs.Ybulkxg
