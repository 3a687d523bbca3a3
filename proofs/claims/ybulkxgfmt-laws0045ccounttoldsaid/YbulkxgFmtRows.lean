/-
  NARROWER THAN 'FOR EVERY INPUT', by the rows' own cells (each row's printed sentence says how): LawS0045CCount: ifaces, laid · LawS0045CTwice: ifaces, laid.
  DERIVED. THE GIVEN ROWS OF THIS SEAT. 2 by the template 'for every input the law returns true; each argument reads behind the call as it read before'; 0 by the template 'total and deterministic' (their statements: YbulkxgFmtTotals.lean).
  GIVEN WITH THE SEED: the statements are not yours to turn. If you find one false, say at which input.
  Laid BY PROGRAM, IN A SANDBOX (cutbox-rows.mjs): the forced cells as the released guide's own fill.sh prints them over the translation 5f9b4b43cfd8aff7… (all of the seat's roots in one cut). By AI agents, Wed Nov 11 2026. No macro, syntax, notation, axiom, sorry.
-/
import Derived.Test.YbulkxgFmtChecked
import GoSem.Claim
import GoSem.ClaimJoined
import GoSem.ClaimMapViews
import Derived.JoinedTies
import Derived.KernelRfl
namespace Go.Proofs.YbulkxgFmt
/- THE CELL 'sum', in the pinned program and in every row, IS THE sha256 OF THE DUMP (.gsa) THAT YbulkxgFmtProg.lean LOADS. Nothing in Lean hashes anything: it is a label: what it is worth is what the hold of that sum in a sandbox is worth. -/
noncomputable def Ybaf.pinned : Pinned := { name := "ybulkxgfmt", sum := "5f9b4b43cfd8aff7160978288f369e5ae87be710a98e0e2bf8368d8cd0e93470", checked := Ybaf.checked }
namespace Rows
def none {H : Type} : Left H := { results := [], args := [] }

/- WHAT THE LISTED PACKAGE-LEVEL VARIABLES READ AS WHEN THE CALL BEGINS. Each datum BY PROGRAM (the guide's laid-datum.mjs) off the statement by which the dump's own 'gosem.cut.vars' lays the variable. In a bare row this is a premise. The card (YbulkxgFmtCards.lean) ties it to the program's text. -/
def laid_example_com_stamp_press_stamp_press_internal_eval_errStopped {H : Type} : DataW H := .iface "*errors.errorString" (.ptr (.agg [.lit (.string [114, 101, 97, 100, 105, 110, 103, 32, 115, 116, 111, 112, 112, 101, 100, 32, 98, 121, 32, 97, 110, 32, 101, 120, 112, 97, 110, 115, 105, 111, 110])]))
def laid_example_com_stamp_press_stamp_press_internal_eval_ErrMaxTotalBytes {H : Type} : DataW H := .iface "*errors.errorString" (.ptr (.agg [.lit (.string [45, 45, 109, 97, 120, 45, 116, 111, 116, 97, 108, 45, 98, 121, 116, 101, 115])]))

/-- 'eval.LawS0045CCount': WHATEVER THE INPUT: true; the input reads as it did. -/
def lawS0045CCountSpec : ChangeSpec := { name := "lawS0045CCount", vars := ["example.com/stamp-press/stamp-press/internal/eval.ErrMaxTotalBytes", "example.com/stamp-press/stamp-press/internal/eval.errStopped"], fn := fun _ => fun
  | [d1, d2, d3, d4, g1, g2] => { results := [.lit (.bool true)], args := [d1, d2, d3, d4], vars := [g1, g2] }
  | _ => none }
def lawS0045CCountRow : OpenClaim := { program := "ybulkxgfmt", sum := "5f9b4b43cfd8aff7160978288f369e5ae87be710a98e0e2bf8368d8cd0e93470", func := "example.com/stamp-press/stamp-press/internal/eval.LawS0045CCount", spec := "lawS0045CCount", stops := ["fmt.errorf"], inPlace := ["fmt.errorf", "internal/reflectlite.TypeOf"], unfollowed := true, recurses := true, named := ["example.com/stamp-press/stamp-press/internal/eval.ErrMaxTotalBytes", "example.com/stamp-press/stamp-press/internal/eval.errStopped"], ifaces := true, apart := false, laid := [("example.com/stamp-press/stamp-press/internal/eval.errStopped", laid_example_com_stamp_press_stamp_press_internal_eval_errStopped), ("example.com/stamp-press/stamp-press/internal/eval.ErrMaxTotalBytes", laid_example_com_stamp_press_stamp_press_internal_eval_ErrMaxTotalBytes)] }
/-- NO THEOREM (fmt's text is open here; it may be false): for the released tool's asking of the row's closed facts alone. THE STATEMENT IS 'LawS0045CCountToldSaid' (YbulkxgFmtCards.lean). -/
def LawS0045CCountFormAsk : Prop := lawS0045CCountRow.holds Ybaf.pinned (OpenSpec.ofChange lawS0045CCountSpec)

/-- ITS FALSE NEIGHBOUR: 'it returns false'. Refute it at one input. -/
def lawS0045CCountWrong : ChangeSpec := { name := "lawS0045CCount", vars := ["example.com/stamp-press/stamp-press/internal/eval.ErrMaxTotalBytes", "example.com/stamp-press/stamp-press/internal/eval.errStopped"], fn := fun _ => fun
  | [d1, d2, d3, d4, g1, g2] => { results := [.lit (.bool false)], args := [d1, d2, d3, d4], vars := [g1, g2] }
  | _ => none }
def LawS0045CCountWrongFormAsk : Prop := lawS0045CCountRow.holds Ybaf.pinned (OpenSpec.ofChange lawS0045CCountWrong)

/-- 'eval.LawS0045CTwice': WHATEVER THE INPUT: true; the input reads as it did. -/
def lawS0045CTwiceSpec : ChangeSpec := { name := "lawS0045CTwice", vars := ["example.com/stamp-press/stamp-press/internal/eval.ErrMaxTotalBytes", "example.com/stamp-press/stamp-press/internal/eval.errStopped"], fn := fun _ => fun
  | [d1, d2, d3, d4, g1, g2] => { results := [.lit (.bool true)], args := [d1, d2, d3, d4], vars := [g1, g2] }
  | _ => none }
def lawS0045CTwiceRow : OpenClaim := { program := "ybulkxgfmt", sum := "5f9b4b43cfd8aff7160978288f369e5ae87be710a98e0e2bf8368d8cd0e93470", func := "example.com/stamp-press/stamp-press/internal/eval.LawS0045CTwice", spec := "lawS0045CTwice", stops := ["fmt.errorf"], inPlace := ["fmt.errorf", "internal/reflectlite.TypeOf"], unfollowed := true, recurses := true, named := ["example.com/stamp-press/stamp-press/internal/eval.ErrMaxTotalBytes", "example.com/stamp-press/stamp-press/internal/eval.errStopped"], ifaces := true, apart := false, laid := [("example.com/stamp-press/stamp-press/internal/eval.errStopped", laid_example_com_stamp_press_stamp_press_internal_eval_errStopped), ("example.com/stamp-press/stamp-press/internal/eval.ErrMaxTotalBytes", laid_example_com_stamp_press_stamp_press_internal_eval_ErrMaxTotalBytes)] }
/-- NO THEOREM (fmt's text is open here; it may be false): for the released tool's asking of the row's closed facts alone. THE STATEMENT IS 'LawS0045CTwiceToldSaid' (YbulkxgFmtCards.lean). -/
def LawS0045CTwiceFormAsk : Prop := lawS0045CTwiceRow.holds Ybaf.pinned (OpenSpec.ofChange lawS0045CTwiceSpec)

/-- ITS FALSE NEIGHBOUR: 'it returns false'. Refute it at one input. -/
def lawS0045CTwiceWrong : ChangeSpec := { name := "lawS0045CTwice", vars := ["example.com/stamp-press/stamp-press/internal/eval.ErrMaxTotalBytes", "example.com/stamp-press/stamp-press/internal/eval.errStopped"], fn := fun _ => fun
  | [d1, d2, d3, d4, g1, g2] => { results := [.lit (.bool false)], args := [d1, d2, d3, d4], vars := [g1, g2] }
  | _ => none }
def LawS0045CTwiceWrongFormAsk : Prop := lawS0045CTwiceRow.holds Ybaf.pinned (OpenSpec.ofChange lawS0045CTwiceWrong)

end Rows
end Go.Proofs.YbulkxgFmt
