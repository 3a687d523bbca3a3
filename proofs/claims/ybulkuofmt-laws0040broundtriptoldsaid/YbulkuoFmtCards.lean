/-
  DERIVED. GIVEN WITH THE SEED: THE CARDS: each row of YbulkuoFmtRows.lean that lists a variable, with what it lists TIED to the program's text (the seventh form; the later family's looks); each row that meets fmt, with fmt's text TOLD by the authors' own Lean function (tested against real Go, not proved from fmt's source: count such statements apart). THE CARD IS WHAT COUNTS. Prove the row's statement (the work); the ties are given (YbulkuoFmtTie.lean); close each card by the builder's one call (the guide's Derived/Test/ToyasCard.lean, 'card_holds'). Laid BY PROGRAM, IN A SANDBOX (cutbox-door.mjs). By AI agents, Wed Nov 11 2026. No macro, syntax, notation, axiom, sorry.
-/
import Derived.Test.YbulkuoFmtRows
import GoSem.ClaimSeven
namespace Go.Proofs.YbulkuoFmt
namespace Rows

/-- THE TOLD AND TIED CARD OF 'tracker.LawS0040BTable'. -/
def lawS0040BTableCard : Claim7 := { stood := { row := lawS0040BTableRow, standIns := [], harness := (true, "db4c478d0a02c76179d7bc721d7697c16da9a7fac37449e9640d40efb83759ab"), looks := false }, told := true, laidByText := true, laidKinds := [.widerDeep], laidTests := true, laidLooks := .later, goes := false }
def LawS0040BTableToldSaid : Prop := Claim7.holds Ybaf.pinned (.plain (OpenSpec.ofChange lawS0040BTableSpec)) lawS0040BTableCard
/-- ITS FALSE NEIGHBOUR. Refute it at one input. -/
def LawS0040BTableToldWrongFalsely : Prop := Claim7.holds Ybaf.pinned (.plain (OpenSpec.ofChange lawS0040BTableWrong)) lawS0040BTableCard

/-- THE TOLD AND TIED CARD OF 'tracker.LawS0040BRoundTrip'. -/
def lawS0040BRoundTripCard : Claim7 := { stood := { row := lawS0040BRoundTripRow, standIns := [], harness := (true, "db4c478d0a02c76179d7bc721d7697c16da9a7fac37449e9640d40efb83759ab"), looks := false }, told := true, laidByText := true, laidKinds := [.widerDeep], laidTests := true, laidLooks := .later, goes := false }
def LawS0040BRoundTripToldSaid : Prop := Claim7.holds Ybaf.pinned (.plain (OpenSpec.ofChange lawS0040BRoundTripSpec)) lawS0040BRoundTripCard
/-- ITS FALSE NEIGHBOUR. Refute it at one input. -/
def LawS0040BRoundTripToldWrongFalsely : Prop := Claim7.holds Ybaf.pinned (.plain (OpenSpec.ofChange lawS0040BRoundTripWrong)) lawS0040BRoundTripCard
end Rows
end Go.Proofs.YbulkuoFmt
