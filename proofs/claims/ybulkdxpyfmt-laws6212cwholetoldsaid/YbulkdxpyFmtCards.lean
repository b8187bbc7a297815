/-
  DERIVED. GIVEN WITH THE SEED: THE CARDS: each row of YbulkdxpyFmtRows.lean that lists a variable, with what it lists TIED to the program's text (the seventh form; the later family's looks); each row that meets fmt, with fmt's text TOLD by the authors' own Lean function (tested against real Go, not proved from fmt's source: count such statements apart). THE CARD IS WHAT COUNTS. Prove the row's statement (the work); the ties are given (YbulkdxpyFmtTie.lean); close each card by the builder's one call (the guide's Derived/Test/ToyasCard.lean, 'card_holds'). Laid BY PROGRAM, IN A SANDBOX (cutbox-door.mjs). By AI agents, Wed Nov 11 2026. No macro, syntax, notation, axiom, sorry.
-/
import Derived.Test.YbulkdxpyFmtRows
import GoSem.ClaimSeven
namespace Go.Proofs.YbulkdxpyFmt
namespace Rows

/-- THE TOLD AND TIED CARD OF 'task.LawS6212CWhole'. -/
def lawS6212CWholeCard : Claim7 := { stood := { row := lawS6212CWholeRow, standIns := [], harness := (true, "2e1b474009bb8f457cf34609da28018324bca0cc874ce864c0055ea34dcc1dc7"), looks := true }, told := true, laidByText := true, laidKinds := [.sentinel], laidTests := true, laidLooks := .later, goes := false }
def LawS6212CWholeToldSaid : Prop := Claim7.holds Ybaf.pinned (.plain (OpenSpec.ofChange lawS6212CWholeSpec)) lawS6212CWholeCard
/-- ITS FALSE NEIGHBOUR. Refute it at one input. -/
def LawS6212CWholeToldWrongFalsely : Prop := Claim7.holds Ybaf.pinned (.plain (OpenSpec.ofChange lawS6212CWholeWrong)) lawS6212CWholeCard
end Rows
end Go.Proofs.YbulkdxpyFmt
