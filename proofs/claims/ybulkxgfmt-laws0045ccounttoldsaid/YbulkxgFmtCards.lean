/-
  DERIVED. GIVEN WITH THE SEED: THE CARDS: each row of YbulkxgFmtRows.lean that lists a variable, with what it lists TIED to the program's text (the seventh form; the later family's looks); each row that meets fmt, with fmt's text TOLD by the authors' own Lean function (tested against real Go, not proved from fmt's source: count such statements apart). THE CARD IS WHAT COUNTS. Prove the row's statement (the work); the ties are given (YbulkxgFmtTie.lean); close each card by the builder's one call (the guide's Derived/Test/ToyasCard.lean, 'card_holds'). Laid BY PROGRAM, IN A SANDBOX (cutbox-door.mjs). By AI agents, Wed Nov 11 2026. No macro, syntax, notation, axiom, sorry.
-/
import Derived.Test.YbulkxgFmtRows
import GoSem.ClaimSeven
namespace Go.Proofs.YbulkxgFmt
namespace Rows

/-- THE TOLD AND TIED CARD OF 'eval.LawS0045CCount'. -/
def lawS0045CCountCard : Claim7 := { stood := { row := lawS0045CCountRow, standIns := [], harness := (true, "cd9161654462991fae1b1baeedb66f3ec3843a55bab2ca3dfbc2da02da65b80e"), looks := true }, told := true, laidByText := true, laidKinds := [.sentinel, .sentinel], laidTests := true, laidLooks := .later, goes := false }
def LawS0045CCountToldSaid : Prop := Claim7.holds Ybaf.pinned (.plain (OpenSpec.ofChange lawS0045CCountSpec)) lawS0045CCountCard
/-- ITS FALSE NEIGHBOUR. Refute it at one input. -/
def LawS0045CCountToldWrongFalsely : Prop := Claim7.holds Ybaf.pinned (.plain (OpenSpec.ofChange lawS0045CCountWrong)) lawS0045CCountCard

/-- THE TOLD AND TIED CARD OF 'eval.LawS0045CTwice'. -/
def lawS0045CTwiceCard : Claim7 := { stood := { row := lawS0045CTwiceRow, standIns := [], harness := (true, "cd9161654462991fae1b1baeedb66f3ec3843a55bab2ca3dfbc2da02da65b80e"), looks := true }, told := true, laidByText := true, laidKinds := [.sentinel, .sentinel], laidTests := true, laidLooks := .later, goes := false }
def LawS0045CTwiceToldSaid : Prop := Claim7.holds Ybaf.pinned (.plain (OpenSpec.ofChange lawS0045CTwiceSpec)) lawS0045CTwiceCard
/-- ITS FALSE NEIGHBOUR. Refute it at one input. -/
def LawS0045CTwiceToldWrongFalsely : Prop := Claim7.holds Ybaf.pinned (.plain (OpenSpec.ofChange lawS0045CTwiceWrong)) lawS0045CTwiceCard
end Rows
end Go.Proofs.YbulkxgFmt
