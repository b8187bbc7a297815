/-
  No cell of these rows narrows 'for every input' (looked for: loops, veiled, ifaces, maps, wideKeys, modest, calm, conditions, laid).
  DERIVED. THE GIVEN ROWS OF THIS SEAT. 3 by the template 'for every input the law returns true; each argument reads behind the call as it read before'; 0 by the template 'total and deterministic' (their statements: YbulkdxteTotals.lean).
  GIVEN WITH THE SEED: the statements are not yours to turn. If you find one false, say at which input.
  Laid BY PROGRAM, IN A SANDBOX (cutbox-rows.mjs): the forced cells as the released guide's own fill.sh prints them over the translation 96a6e0d3639a7c2c… (all of the seat's roots in one cut). By AI agents, Wed Nov 11 2026. No macro, syntax, notation, axiom, sorry.
-/
import Derived.Test.YbulkdxteChecked
import GoSem.Claim
import GoSem.ClaimJoined
import GoSem.ClaimMapViews
import Derived.JoinedTies
import Derived.KernelRfl
namespace Go.Proofs.Ybulkdxte
/- THE CELL 'sum', in the pinned program and in every row, IS THE sha256 OF THE DUMP (.gsa) THAT YbulkdxteProg.lean LOADS. Nothing in Lean hashes anything: it is a label: what it is worth is what the hold of that sum in a sandbox is worth. -/
noncomputable def Yba.pinned : Pinned := { name := "ybulkdxte", sum := "96a6e0d3639a7c2c5edc1d2ae7682b0f017590bb43850ab1837c8842737df4e8", checked := Yba.checked }
namespace Rows
def none {H : Type} : Left H := { results := [], args := [] }

/-- 'hopwise.LawS6218AWhole': WHATEVER THE INPUT: true; the input reads as it did. -/
def lawS6218AWholeSpec : ChangeSpec := { name := "lawS6218AWhole", fn := fun _ => fun
  | [d1, d2] => { results := [.lit (.bool true)], args := [d1, d2] }
  | _ => none }
def lawS6218AWholeRow : OpenClaim := { program := "ybulkdxte", sum := "96a6e0d3639a7c2c5edc1d2ae7682b0f017590bb43850ab1837c8842737df4e8", func := "example.com/hopwise/hopwise.LawS6218AWhole", spec := "lawS6218AWhole", unfollowed := true, recurses := true, apart := false }
def LawS6218AWholeSaid : Prop := lawS6218AWholeRow.holds Yba.pinned (OpenSpec.ofChange lawS6218AWholeSpec)

/-- ITS FALSE NEIGHBOUR: 'it returns false'. Refute it at one input. -/
def lawS6218AWholeWrong : ChangeSpec := { name := "lawS6218AWhole", fn := fun _ => fun
  | [d1, d2] => { results := [.lit (.bool false)], args := [d1, d2] }
  | _ => none }
def LawS6218AWholeWrongFalsely : Prop := lawS6218AWholeRow.holds Yba.pinned (OpenSpec.ofChange lawS6218AWholeWrong)

/-- 'hopwise.LawS6218BWhole': WHATEVER THE INPUT: true; the input reads as it did. -/
def lawS6218BWholeSpec : ChangeSpec := { name := "lawS6218BWhole", fn := fun _ => fun
  | [d1, d2, d3, d4, d5, d6, d7, d8] => { results := [.lit (.bool true)], args := [d1, d2, d3, d4, d5, d6, d7, d8] }
  | _ => none }
def lawS6218BWholeRow : OpenClaim := { program := "ybulkdxte", sum := "96a6e0d3639a7c2c5edc1d2ae7682b0f017590bb43850ab1837c8842737df4e8", func := "example.com/hopwise/hopwise.LawS6218BWhole", spec := "lawS6218BWhole", apart := false }
def LawS6218BWholeSaid : Prop := lawS6218BWholeRow.holds Yba.pinned (OpenSpec.ofChange lawS6218BWholeSpec)

/-- ITS FALSE NEIGHBOUR: 'it returns false'. Refute it at one input. -/
def lawS6218BWholeWrong : ChangeSpec := { name := "lawS6218BWhole", fn := fun _ => fun
  | [d1, d2, d3, d4, d5, d6, d7, d8] => { results := [.lit (.bool false)], args := [d1, d2, d3, d4, d5, d6, d7, d8] }
  | _ => none }
def LawS6218BWholeWrongFalsely : Prop := lawS6218BWholeRow.holds Yba.pinned (OpenSpec.ofChange lawS6218BWholeWrong)

/-- 'hopwise.LawS6218CWhole': WHATEVER THE INPUT: true; the input reads as it did. -/
def lawS6218CWholeSpec : ChangeSpec := { name := "lawS6218CWhole", fn := fun _ => fun
  | [d1, d2] => { results := [.lit (.bool true)], args := [d1, d2] }
  | _ => none }
def lawS6218CWholeRow : OpenClaim := { program := "ybulkdxte", sum := "96a6e0d3639a7c2c5edc1d2ae7682b0f017590bb43850ab1837c8842737df4e8", func := "example.com/hopwise/hopwise.LawS6218CWhole", spec := "lawS6218CWhole", apart := false }
def LawS6218CWholeSaid : Prop := lawS6218CWholeRow.holds Yba.pinned (OpenSpec.ofChange lawS6218CWholeSpec)

/-- ITS FALSE NEIGHBOUR: 'it returns false'. Refute it at one input. -/
def lawS6218CWholeWrong : ChangeSpec := { name := "lawS6218CWhole", fn := fun _ => fun
  | [d1, d2] => { results := [.lit (.bool false)], args := [d1, d2] }
  | _ => none }
def LawS6218CWholeWrongFalsely : Prop := lawS6218CWholeRow.holds Yba.pinned (OpenSpec.ofChange lawS6218CWholeWrong)

end Rows
end Go.Proofs.Ybulkdxte
