/-
  No cell of these rows narrows 'for every input' (looked for: loops, veiled, ifaces, maps, wideKeys, modest, calm, conditions, laid).
  DERIVED. THE GIVEN ROWS OF THIS SEAT. 3 by the template 'for every input the law returns true; each argument reads behind the call as it read before'; 0 by the template 'total and deterministic' (their statements: YbulkdxscTotals.lean).
  GIVEN WITH THE SEED: the statements are not yours to turn. If you find one false, say at which input.
  Laid BY PROGRAM, IN A SANDBOX (cutbox-rows.mjs): the forced cells as the released guide's own fill.sh prints them over the translation 1fc76096bef9c78f… (all of the seat's roots in one cut). By AI agents, Wed Nov 11 2026. No macro, syntax, notation, axiom, sorry.
-/
import Derived.Test.YbulkdxscChecked
import GoSem.Claim
import GoSem.ClaimJoined
import GoSem.ClaimMapViews
import Derived.JoinedTies
import Derived.KernelRfl
namespace Go.Proofs.Ybulkdxsc
/- THE CELL 'sum', in the pinned program and in every row, IS THE sha256 OF THE DUMP (.gsa) THAT YbulkdxscProg.lean LOADS. Nothing in Lean hashes anything: it is a label: what it is worth is what the hold of that sum in a sandbox is worth. -/
noncomputable def Yba.pinned : Pinned := { name := "ybulkdxsc", sum := "1fc76096bef9c78f42afbd7579cfd2b53a011c718684513559771597ecc51255", checked := Yba.checked }
namespace Rows
def none {H : Type} : Left H := { results := [], args := [] }

/-- 'sim.LawS6216APart': WHATEVER THE INPUT: true; the input reads as it did. -/
def lawS6216APartSpec : ChangeSpec := { name := "lawS6216APart", fn := fun _ => fun
  | [d1, d2, d3, d4, d5] => { results := [.lit (.bool true)], args := [d1, d2, d3, d4, d5] }
  | _ => none }
def lawS6216APartRow : OpenClaim := { program := "ybulkdxsc", sum := "1fc76096bef9c78f42afbd7579cfd2b53a011c718684513559771597ecc51255", func := "example.com/forkbench/forkbench/sim.LawS6216APart", spec := "lawS6216APart", unfollowed := true, recurses := true, plainKeys := false, apart := false }
def LawS6216APartSaid : Prop := lawS6216APartRow.holds Yba.pinned (OpenSpec.ofChange lawS6216APartSpec)

/-- ITS FALSE NEIGHBOUR: 'it returns false'. Refute it at one input. -/
def lawS6216APartWrong : ChangeSpec := { name := "lawS6216APart", fn := fun _ => fun
  | [d1, d2, d3, d4, d5] => { results := [.lit (.bool false)], args := [d1, d2, d3, d4, d5] }
  | _ => none }
def LawS6216APartWrongFalsely : Prop := lawS6216APartRow.holds Yba.pinned (OpenSpec.ofChange lawS6216APartWrong)

/-- 'sim.LawS6216BWhole': WHATEVER THE INPUT: true; the input reads as it did. -/
def lawS6216BWholeSpec : ChangeSpec := { name := "lawS6216BWhole", fn := fun _ => fun
  | [d1, d2, d3] => { results := [.lit (.bool true)], args := [d1, d2, d3] }
  | _ => none }
def lawS6216BWholeRow : OpenClaim := { program := "ybulkdxsc", sum := "1fc76096bef9c78f42afbd7579cfd2b53a011c718684513559771597ecc51255", func := "example.com/forkbench/forkbench/sim.LawS6216BWhole", spec := "lawS6216BWhole", plainKeys := false, apart := false }
def LawS6216BWholeSaid : Prop := lawS6216BWholeRow.holds Yba.pinned (OpenSpec.ofChange lawS6216BWholeSpec)

/-- ITS FALSE NEIGHBOUR: 'it returns false'. Refute it at one input. -/
def lawS6216BWholeWrong : ChangeSpec := { name := "lawS6216BWhole", fn := fun _ => fun
  | [d1, d2, d3] => { results := [.lit (.bool false)], args := [d1, d2, d3] }
  | _ => none }
def LawS6216BWholeWrongFalsely : Prop := lawS6216BWholeRow.holds Yba.pinned (OpenSpec.ofChange lawS6216BWholeWrong)

/-- 'scenario.LawS6216CWhole': WHATEVER THE INPUT: true; the input reads as it did. -/
def lawS6216CWholeSpec : ChangeSpec := { name := "lawS6216CWhole", fn := fun _ => fun
  | [d1, d2] => { results := [.lit (.bool true)], args := [d1, d2] }
  | _ => none }
def lawS6216CWholeRow : OpenClaim := { program := "ybulkdxsc", sum := "1fc76096bef9c78f42afbd7579cfd2b53a011c718684513559771597ecc51255", func := "example.com/forkbench/forkbench/scenario.LawS6216CWhole", spec := "lawS6216CWhole", plainKeys := false, apart := false }
def LawS6216CWholeSaid : Prop := lawS6216CWholeRow.holds Yba.pinned (OpenSpec.ofChange lawS6216CWholeSpec)

/-- ITS FALSE NEIGHBOUR: 'it returns false'. Refute it at one input. -/
def lawS6216CWholeWrong : ChangeSpec := { name := "lawS6216CWhole", fn := fun _ => fun
  | [d1, d2] => { results := [.lit (.bool false)], args := [d1, d2] }
  | _ => none }
def LawS6216CWholeWrongFalsely : Prop := lawS6216CWholeRow.holds Yba.pinned (OpenSpec.ofChange lawS6216CWholeWrong)

end Rows
end Go.Proofs.Ybulkdxsc
