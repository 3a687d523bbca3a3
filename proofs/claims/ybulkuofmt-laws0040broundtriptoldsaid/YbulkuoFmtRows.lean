/-
  NARROWER THAN 'FOR EVERY INPUT', by the rows' own cells (each row's printed sentence says how): LawS0040BTable: laid · LawS0040BRoundTrip: laid.
  DERIVED. THE GIVEN ROWS OF THIS SEAT. 2 by the template 'for every input the law returns true; each argument reads behind the call as it read before'; 0 by the template 'total and deterministic' (their statements: YbulkuoFmtTotals.lean).
  GIVEN WITH THE SEED: the statements are not yours to turn. If you find one false, say at which input.
  Laid BY PROGRAM, IN A SANDBOX (cutbox-rows.mjs): the forced cells as the released guide's own fill.sh prints them over the translation 2baba829a5094ba2… (all of the seat's roots in one cut). By AI agents, Wed Nov 11 2026. No macro, syntax, notation, axiom, sorry.
-/
import Derived.Test.YbulkuoFmtChecked
import GoSem.Claim
import GoSem.ClaimJoined
import GoSem.ClaimMapViews
import Derived.JoinedTies
import Derived.KernelRfl
namespace Go.Proofs.YbulkuoFmt
/- THE CELL 'sum', in the pinned program and in every row, IS THE sha256 OF THE DUMP (.gsa) THAT YbulkuoFmtProg.lean LOADS. Nothing in Lean hashes anything: it is a label: what it is worth is what the hold of that sum in a sandbox is worth. -/
noncomputable def Ybaf.pinned : Pinned := { name := "ybulkuofmt", sum := "2baba829a5094ba2dd404b9c5d0ba60a34a9c9a257502aa8f99a3bf33495e8fd", checked := Ybaf.checked }
namespace Rows
def none {H : Type} : Left H := { results := [], args := [] }

/- WHAT THE LISTED PACKAGE-LEVEL VARIABLES READ AS WHEN THE CALL BEGINS. Each datum BY PROGRAM (the guide's laid-datum.mjs) off the statement by which the dump's own 'gosem.cut.vars' lays the variable. In a bare row this is a premise. The card (YbulkuoFmtCards.lean) ties it to the program's text. -/
def laid_example_com_shoalwire_shoalwire_internal_tracker_eventTexts {H : Type} : DataW H := .agg [.lit (.string []), .lit (.string [115, 116, 97, 114, 116, 101, 100]), .lit (.string [99, 111, 109, 112, 108, 101, 116, 101, 100]), .lit (.string [115, 116, 111, 112, 112, 101, 100])]

/-- 'tracker.LawS0040BTable': WHATEVER THE INPUT: true; the input reads as it did. -/
def lawS0040BTableSpec : ChangeSpec := { name := "lawS0040BTable", vars := ["example.com/shoalwire/shoalwire/internal/tracker.eventTexts"], fn := fun _ => fun
  | [d, g1] => { results := [.lit (.bool true)], args := [d], vars := [g1] }
  | _ => none }
def lawS0040BTableRow : OpenClaim := { program := "ybulkuofmt", sum := "2baba829a5094ba2dd404b9c5d0ba60a34a9c9a257502aa8f99a3bf33495e8fd", func := "example.com/shoalwire/shoalwire/internal/tracker.LawS0040BTable", spec := "lawS0040BTable", stops := ["fmt.errorf"], inPlace := ["fmt.errorf"], named := ["example.com/shoalwire/shoalwire/internal/tracker.eventTexts"], apart := false, laid := [("example.com/shoalwire/shoalwire/internal/tracker.eventTexts", laid_example_com_shoalwire_shoalwire_internal_tracker_eventTexts)] }
/-- NO THEOREM (fmt's text is open here; it may be false): for the released tool's asking of the row's closed facts alone. THE STATEMENT IS 'LawS0040BTableToldSaid' (YbulkuoFmtCards.lean). -/
def LawS0040BTableFormAsk : Prop := lawS0040BTableRow.holds Ybaf.pinned (OpenSpec.ofChange lawS0040BTableSpec)

/-- ITS FALSE NEIGHBOUR: 'it returns false'. Refute it at one input. -/
def lawS0040BTableWrong : ChangeSpec := { name := "lawS0040BTable", vars := ["example.com/shoalwire/shoalwire/internal/tracker.eventTexts"], fn := fun _ => fun
  | [d, g1] => { results := [.lit (.bool false)], args := [d], vars := [g1] }
  | _ => none }
def LawS0040BTableWrongFormAsk : Prop := lawS0040BTableRow.holds Ybaf.pinned (OpenSpec.ofChange lawS0040BTableWrong)

/-- 'tracker.LawS0040BRoundTrip': WHATEVER THE INPUT: true; the input reads as it did. -/
def lawS0040BRoundTripSpec : ChangeSpec := { name := "lawS0040BRoundTrip", vars := ["example.com/shoalwire/shoalwire/internal/tracker.eventTexts"], fn := fun _ => fun
  | [d1, d2, g1] => { results := [.lit (.bool true)], args := [d1, d2], vars := [g1] }
  | _ => none }
def lawS0040BRoundTripRow : OpenClaim := { program := "ybulkuofmt", sum := "2baba829a5094ba2dd404b9c5d0ba60a34a9c9a257502aa8f99a3bf33495e8fd", func := "example.com/shoalwire/shoalwire/internal/tracker.LawS0040BRoundTrip", spec := "lawS0040BRoundTrip", stops := ["fmt.errorf"], inPlace := ["fmt.errorf"], named := ["example.com/shoalwire/shoalwire/internal/tracker.eventTexts"], apart := false, laid := [("example.com/shoalwire/shoalwire/internal/tracker.eventTexts", laid_example_com_shoalwire_shoalwire_internal_tracker_eventTexts)] }
/-- NO THEOREM (fmt's text is open here; it may be false): for the released tool's asking of the row's closed facts alone. THE STATEMENT IS 'LawS0040BRoundTripToldSaid' (YbulkuoFmtCards.lean). -/
def LawS0040BRoundTripFormAsk : Prop := lawS0040BRoundTripRow.holds Ybaf.pinned (OpenSpec.ofChange lawS0040BRoundTripSpec)

/-- ITS FALSE NEIGHBOUR: 'it returns false'. Refute it at one input. -/
def lawS0040BRoundTripWrong : ChangeSpec := { name := "lawS0040BRoundTrip", vars := ["example.com/shoalwire/shoalwire/internal/tracker.eventTexts"], fn := fun _ => fun
  | [d1, d2, g1] => { results := [.lit (.bool false)], args := [d1, d2], vars := [g1] }
  | _ => none }
def LawS0040BRoundTripWrongFormAsk : Prop := lawS0040BRoundTripRow.holds Ybaf.pinned (OpenSpec.ofChange lawS0040BRoundTripWrong)

end Rows
end Go.Proofs.YbulkuoFmt
