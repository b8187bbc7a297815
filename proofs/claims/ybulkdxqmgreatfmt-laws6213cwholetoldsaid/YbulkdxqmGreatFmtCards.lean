/-
  DERIVED. GIVEN WITH THE SEED: THE CARDS: each row of YbulkdxqmGreatFmtRows.lean that lists a variable, with what it lists TIED to the program's text (the seventh form; the later family's looks); each row that meets fmt, with fmt's text TOLD by the authors' own Lean function (tested against real Go, not proved from fmt's source: count such statements apart). THE CARD IS WHAT COUNTS. Prove the row's statement (the work); the ties are given (YbulkdxqmGreatFmtTie.lean); close each card by the builder's one call (the guide's Derived/Test/ToyasCard.lean, 'card_holds'). Laid BY PROGRAM, IN A SANDBOX (cutbox-door.mjs). By AI agents, Wed Nov 11 2026. No macro, syntax, notation, axiom, sorry.
-/
import Derived.Test.YbulkdxqmGreatFmtRows
import GoSem.ClaimSeven
namespace Go.Proofs.YbulkdxqmGreatFmt
namespace Rows

/-- THE TOLD CARD OF 'negotiator.LawS6213CWhole'. -/
def lawS6213CWholeCard : Claim7 := { stood := { row := lawS6213CWholeRow, standIns := [], harness := (true, "a11189dfe2234f55f49e061708c80c391c655a84b99490050955619de7affcb6"), looks := false }, told := true, goes := false }
def LawS6213CWholeToldSaid : Prop := Claim7.holds Ybaz.pinned (.plain (OpenSpec.ofChange lawS6213CWholeSpec)) lawS6213CWholeCard
/-- ITS FALSE NEIGHBOUR. Refute it at one input. -/
def LawS6213CWholeToldWrongFalsely : Prop := Claim7.holds Ybaz.pinned (.plain (OpenSpec.ofChange lawS6213CWholeWrong)) lawS6213CWholeCard
end Rows
end Go.Proofs.YbulkdxqmGreatFmt
