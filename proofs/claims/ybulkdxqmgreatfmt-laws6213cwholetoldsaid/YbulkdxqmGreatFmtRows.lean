/-
  No cell of these rows narrows 'for every input' (looked for: loops, veiled, ifaces, maps, wideKeys, modest, calm, conditions, laid).
  DERIVED. THE GIVEN ROWS OF THIS SEAT. 1 by the template 'for every input the law returns true; each argument reads behind the call as it read before'; 0 by the template 'total and deterministic' (their statements: YbulkdxqmGreatFmtTotals.lean).
  GIVEN WITH THE SEED: the statements are not yours to turn. If you find one false, say at which input.
  Laid BY PROGRAM, IN A SANDBOX (cutbox-rows.mjs): the forced cells as the released guide's own fill.sh prints them over the translation 2086b5941bc3638e… (all of the seat's roots in one cut). By AI agents, Wed Nov 11 2026. No macro, syntax, notation, axiom, sorry.
-/
import Derived.Test.YbulkdxqmGreatFmtChecked
import GoSem.Claim
import GoSem.ClaimJoined
import GoSem.ClaimMapViews
import Derived.JoinedTies
import Derived.KernelRfl
namespace Go.Proofs.YbulkdxqmGreatFmt
/- THE CELL 'sum', in the pinned program and in every row, IS THE sha256 OF THE DUMP (.gsa) THAT YbulkdxqmGreatFmtProg.lean LOADS. Nothing in Lean hashes anything: it is a label: what it is worth is what the hold of that sum in a sandbox is worth. -/
noncomputable def Ybaz.pinned : Pinned := { name := "ybulkdxqmgreatfmt", sum := "2086b5941bc3638e9f4a4c08973e24af5ad5ed3adec1efc083ad3a31f4d7d6a7", checked := Ybaz.checked }
namespace Rows
def none {H : Type} : Left H := { results := [], args := [] }

/-- 'negotiator.LawS6213CWhole': WHATEVER THE INPUT: true; the input reads as it did. -/
def lawS6213CWholeSpec : ChangeSpec := { name := "lawS6213CWhole", fn := fun _ => fun
  | [d1, d2] => { results := [.lit (.bool true)], args := [d1, d2] }
  | _ => none }
def lawS6213CWholeRow : OpenClaim := { program := "ybulkdxqmgreatfmt", sum := "2086b5941bc3638e9f4a4c08973e24af5ad5ed3adec1efc083ad3a31f4d7d6a7", func := "example.com/evenkeel/evenkeel/internal/negotiator.LawS6213CWhole", spec := "lawS6213CWhole", stops := ["fmt.Sprintf"], inPlace := ["slices.overlaps[*example.com/evenkeel/evenkeel/internal/negotiator.Job]", "slices.overlaps[example.com/evenkeel/evenkeel/internal/negotiator.span]", "slices.overlaps[*example.com/evenkeel/evenkeel/internal/negotiator.block]", "math.Float64frombits", "fmt.Sprintf", "slices.overlaps[example.com/evenkeel/evenkeel/internal/negotiator.widthCount]"], unfollowed := true, recurses := true, apart := false }
/-- NO THEOREM (fmt's text is open here; it may be false): for the released tool's asking of the row's closed facts alone. THE STATEMENT IS 'LawS6213CWholeToldSaid' (YbulkdxqmGreatFmtCards.lean). -/
def LawS6213CWholeFormAsk : Prop := lawS6213CWholeRow.holds Ybaz.pinned (OpenSpec.ofChange lawS6213CWholeSpec)

/-- ITS FALSE NEIGHBOUR: 'it returns false'. Refute it at one input. -/
def lawS6213CWholeWrong : ChangeSpec := { name := "lawS6213CWhole", fn := fun _ => fun
  | [d1, d2] => { results := [.lit (.bool false)], args := [d1, d2] }
  | _ => none }
def LawS6213CWholeWrongFormAsk : Prop := lawS6213CWholeRow.holds Ybaz.pinned (OpenSpec.ofChange lawS6213CWholeWrong)

end Rows
end Go.Proofs.YbulkdxqmGreatFmt
