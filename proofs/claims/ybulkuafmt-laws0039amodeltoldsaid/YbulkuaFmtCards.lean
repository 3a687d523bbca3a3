/-
  DERIVED. GIVEN WITH THE SEED: THE CARDS: each row of YbulkuaFmtRows.lean that lists a variable, with what it lists TIED to the program's text (the seventh form; the later family's looks); each row that meets fmt, with fmt's text TOLD by the authors' own Lean function (tested against real Go, not proved from fmt's source: count such statements apart). THE CARD IS WHAT COUNTS. Prove the row's statement (the work); the ties are given (YbulkuaFmtTie.lean); close each card by the builder's one call (the guide's Derived/Test/ToyasCard.lean, 'card_holds'). Laid BY PROGRAM, IN A SANDBOX (cutbox-door.mjs). By AI agents, Wed Nov 11 2026. No macro, syntax, notation, axiom, sorry.
-/
import Derived.Test.YbulkuaFmtRows
import GoSem.ClaimSeven
namespace Go.Proofs.YbulkuaFmt
namespace Rows

/-- THE TOLD AND TIED CARD OF 'zhaomu.LawS0039AModel'. -/
def lawS0039AModelCard : Claim7 := { stood := { row := lawS0039AModelRow, standIns := [], harness := (true, "180ce7dd0f631b61dd90bf68569b3a1c753883e63e7030a223e3cdb28bfade28"), looks := true }, told := true, laidByText := true, laidKinds := [.called, .called], laidTests := true, laidLooks := .later, goes := false }
def LawS0039AModelToldSaid : Prop := Claim7.holds Ybaf.pinned (.plain (OpenSpec.ofChange lawS0039AModelSpec)) lawS0039AModelCard
/-- ITS FALSE NEIGHBOUR. Refute it at one input. -/
def LawS0039AModelToldWrongFalsely : Prop := Claim7.holds Ybaf.pinned (.plain (OpenSpec.ofChange lawS0039AModelWrong)) lawS0039AModelCard
end Rows
end Go.Proofs.YbulkuaFmt
