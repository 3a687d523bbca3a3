/-
  No cell of these rows narrows 'for every input' (looked for: loops, veiled, ifaces, maps, wideKeys, modest, calm, conditions, laid).
  DERIVED. THE GIVEN ROWS OF THIS SEAT. 1 by the template 'for every input the law returns true; each argument reads behind the call as it read before'; 0 by the template 'total and deterministic' (their statements: YbulkuoTotals.lean).
  GIVEN WITH THE SEED: the statements are not yours to turn. If you find one false, say at which input.
  Laid BY PROGRAM, IN A SANDBOX (cutbox-rows.mjs): the forced cells as the released guide's own fill.sh prints them over the translation bcd545fb289095cf… (all of the seat's roots in one cut). By AI agents, Wed Nov 11 2026. No macro, syntax, notation, axiom, sorry.
-/
import Derived.Test.YbulkuoChecked
import GoSem.Claim
import GoSem.ClaimJoined
import GoSem.ClaimMapViews
import Derived.JoinedTies
import Derived.KernelRfl
namespace Go.Proofs.Ybulkuo
/- THE CELL 'sum', in the pinned program and in every row, IS THE sha256 OF THE DUMP (.gsa) THAT YbulkuoProg.lean LOADS. Nothing in Lean hashes anything: it is a label: what it is worth is what the hold of that sum in a sandbox is worth. -/
noncomputable def Yba.pinned : Pinned := { name := "ybulkuo", sum := "bcd545fb289095cfce05999b8831aad075aff2fa6b2433bd20ab59a9e644bf24", checked := Yba.checked }
namespace Rows
def none {H : Type} : Left H := { results := [], args := [] }

/-- 'shoalwire.LawS0040CWithdraw': WHATEVER THE INPUT: true; the input reads as it did. -/
def lawS0040CWithdrawSpec : ChangeSpec := { name := "lawS0040CWithdraw", fn := fun _ => fun
  | [d1, d2] => { results := [.lit (.bool true)], args := [d1, d2] }
  | _ => none }
def lawS0040CWithdrawRow : OpenClaim := { program := "ybulkuo", sum := "bcd545fb289095cfce05999b8831aad075aff2fa6b2433bd20ab59a9e644bf24", func := "example.com/shoalwire/shoalwire.LawS0040CWithdraw", spec := "lawS0040CWithdraw", unfollowed := true, recurses := true, apart := false }
def LawS0040CWithdrawSaid : Prop := lawS0040CWithdrawRow.holds Yba.pinned (OpenSpec.ofChange lawS0040CWithdrawSpec)

/-- ITS FALSE NEIGHBOUR: 'it returns false'. Refute it at one input. -/
def lawS0040CWithdrawWrong : ChangeSpec := { name := "lawS0040CWithdraw", fn := fun _ => fun
  | [d1, d2] => { results := [.lit (.bool false)], args := [d1, d2] }
  | _ => none }
def LawS0040CWithdrawWrongFalsely : Prop := lawS0040CWithdrawRow.holds Yba.pinned (OpenSpec.ofChange lawS0040CWithdrawWrong)

end Rows
end Go.Proofs.Ybulkuo
