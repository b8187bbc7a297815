/-
  NARROWER THAN 'FOR EVERY INPUT', by the rows' own cells (each row's printed sentence says how): LawS6212CWhole: ifaces, laid.
  DERIVED. THE GIVEN ROWS OF THIS SEAT. 1 by the template 'for every input the law returns true; each argument reads behind the call as it read before'; 0 by the template 'total and deterministic' (their statements: YbulkdxpyFmtTotals.lean).
  GIVEN WITH THE SEED: the statements are not yours to turn. If you find one false, say at which input.
  Laid BY PROGRAM, IN A SANDBOX (cutbox-rows.mjs): the forced cells as the released guide's own fill.sh prints them over the translation 5a4c3aaa43d5e3c5… (all of the seat's roots in one cut). By AI agents, Wed Nov 11 2026. No macro, syntax, notation, axiom, sorry.
-/
import Derived.Test.YbulkdxpyFmtChecked
import GoSem.Claim
import GoSem.ClaimJoined
import GoSem.ClaimMapViews
import Derived.JoinedTies
import Derived.KernelRfl
namespace Go.Proofs.YbulkdxpyFmt
/- THE CELL 'sum', in the pinned program and in every row, IS THE sha256 OF THE DUMP (.gsa) THAT YbulkdxpyFmtProg.lean LOADS. Nothing in Lean hashes anything: it is a label: what it is worth is what the hold of that sum in a sandbox is worth. -/
noncomputable def Ybaf.pinned : Pinned := { name := "ybulkdxpyfmt", sum := "5a4c3aaa43d5e3c50ed07e80cff31579d5a26df0d5c484bb220b5eedb996d38f", checked := Ybaf.checked }
namespace Rows
def none {H : Type} : Left H := { results := [], args := [] }

/- WHAT THE LISTED PACKAGE-LEVEL VARIABLES READ AS WHEN THE CALL BEGINS. Each datum BY PROGRAM (the guide's laid-datum.mjs) off the statement by which the dump's own 'gosem.cut.vars' lays the variable. In a bare row this is a premise. The card (YbulkdxpyFmtCards.lean) ties it to the program's text. -/
def laid_example_com_signalbox_signalbox_internal_task_ErrNotFound {H : Type} : DataW H := .iface "*errors.errorString" (.ptr (.agg [.lit (.string [110, 111, 32, 115, 117, 99, 104, 32, 116, 97, 115, 107])]))

/-- 'task.LawS6212CWhole': WHATEVER THE INPUT: true; the input reads as it did. -/
def lawS6212CWholeSpec : ChangeSpec := { name := "lawS6212CWhole", vars := ["example.com/signalbox/signalbox/internal/task.ErrNotFound"], fn := fun _ => fun
  | [d1, d2, d3, d4, d5, g1] => { results := [.lit (.bool true)], args := [d1, d2, d3, d4, d5], vars := [g1] }
  | _ => none }
def lawS6212CWholeRow : OpenClaim := { program := "ybulkdxpyfmt", sum := "5a4c3aaa43d5e3c50ed07e80cff31579d5a26df0d5c484bb220b5eedb996d38f", func := "example.com/signalbox/signalbox/internal/task.LawS6212CWhole", spec := "lawS6212CWhole", stops := ["fmt.errorf"], inPlace := ["fmt.errorf", "internal/reflectlite.TypeOf"], unfollowed := true, recurses := true, named := ["example.com/signalbox/signalbox/internal/task.ErrNotFound"], ifaces := true, apart := false, laid := [("example.com/signalbox/signalbox/internal/task.ErrNotFound", laid_example_com_signalbox_signalbox_internal_task_ErrNotFound)] }
/-- NO THEOREM (fmt's text is open here; it may be false): for the released tool's asking of the row's closed facts alone. THE STATEMENT IS 'LawS6212CWholeToldSaid' (YbulkdxpyFmtCards.lean). -/
def LawS6212CWholeFormAsk : Prop := lawS6212CWholeRow.holds Ybaf.pinned (OpenSpec.ofChange lawS6212CWholeSpec)

/-- ITS FALSE NEIGHBOUR: 'it returns false'. Refute it at one input. -/
def lawS6212CWholeWrong : ChangeSpec := { name := "lawS6212CWhole", vars := ["example.com/signalbox/signalbox/internal/task.ErrNotFound"], fn := fun _ => fun
  | [d1, d2, d3, d4, d5, g1] => { results := [.lit (.bool false)], args := [d1, d2, d3, d4, d5], vars := [g1] }
  | _ => none }
def LawS6212CWholeWrongFormAsk : Prop := lawS6212CWholeRow.holds Ybaf.pinned (OpenSpec.ofChange lawS6212CWholeWrong)

end Rows
end Go.Proofs.YbulkdxpyFmt
