/-
  No cell of these rows narrows 'for every input' (looked for: loops, veiled, ifaces, maps, wideKeys, modest, calm, conditions, laid).
  DERIVED. THE GIVEN ROWS OF THIS SEAT. 2 by the template 'for every input the law returns true; each argument reads behind the call as it read before'; 0 by the template 'total and deterministic' (their statements: YbulkaawwTotals.lean).
  GIVEN WITH THE SEED: the statements are not yours to turn. If you find one false, say at which input.
  Laid BY PROGRAM, IN A SANDBOX (cutbox-rows.mjs): the forced cells as the released guide's own fill.sh prints them over the translation 54dd9ded19796c87… (all of the seat's roots in one cut). By AI agents, Wed Nov 11 2026. No macro, syntax, notation, axiom, sorry.
-/
import Derived.Test.YbulkaawwChecked
import GoSem.Claim
import GoSem.ClaimJoined
import GoSem.ClaimMapViews
import Derived.JoinedTies
import Derived.KernelRfl
namespace Go.Proofs.Ybulkaaww
/- THE CELL 'sum', in the pinned program and in every row, IS THE sha256 OF THE DUMP (.gsa) THAT YbulkaawwProg.lean LOADS. Nothing in Lean hashes anything: it is a label: what it is worth is what the hold of that sum in a sandbox is worth. -/
noncomputable def Yba.pinned : Pinned := { name := "ybulkaaww", sum := "54dd9ded19796c87668fabce8d91f3e3216a072012fb39f8b34c564b6b49b8ea", checked := Yba.checked }
namespace Rows
def none {H : Type} : Left H := { results := [], args := [] }

/-- 'happenstamp.LawS1348BShape': WHATEVER THE INPUT: true; the input reads as it did. -/
def lawS1348BShapeSpec : ChangeSpec := { name := "lawS1348BShape", fn := fun _ => fun
  | [d1, d2] => { results := [.lit (.bool true)], args := [d1, d2] }
  | _ => none }
def lawS1348BShapeRow : OpenClaim := { program := "ybulkaaww", sum := "54dd9ded19796c87668fabce8d91f3e3216a072012fb39f8b34c564b6b49b8ea", func := "example.com/happenstamp/happenstamp.LawS1348BShape", spec := "lawS1348BShape", apart := false }
def LawS1348BShapeSaid : Prop := lawS1348BShapeRow.holds Yba.pinned (OpenSpec.ofChange lawS1348BShapeSpec)

/-- ITS FALSE NEIGHBOUR: 'it returns false'. Refute it at one input. -/
def lawS1348BShapeWrong : ChangeSpec := { name := "lawS1348BShape", fn := fun _ => fun
  | [d1, d2] => { results := [.lit (.bool false)], args := [d1, d2] }
  | _ => none }
def LawS1348BShapeWrongFalsely : Prop := lawS1348BShapeRow.holds Yba.pinned (OpenSpec.ofChange lawS1348BShapeWrong)

/-- 'happenstamp.LawS1348BPlaceFind': WHATEVER THE INPUT: true; the input reads as it did. -/
def lawS1348BPlaceFindSpec : ChangeSpec := { name := "lawS1348BPlaceFind", fn := fun _ => fun
  | [d1, d2, d3] => { results := [.lit (.bool true)], args := [d1, d2, d3] }
  | _ => none }
def lawS1348BPlaceFindRow : OpenClaim := { program := "ybulkaaww", sum := "54dd9ded19796c87668fabce8d91f3e3216a072012fb39f8b34c564b6b49b8ea", func := "example.com/happenstamp/happenstamp.LawS1348BPlaceFind", spec := "lawS1348BPlaceFind", unfollowed := true, recurses := true, apart := false }
def LawS1348BPlaceFindSaid : Prop := lawS1348BPlaceFindRow.holds Yba.pinned (OpenSpec.ofChange lawS1348BPlaceFindSpec)

/-- ITS FALSE NEIGHBOUR: 'it returns false'. Refute it at one input. -/
def lawS1348BPlaceFindWrong : ChangeSpec := { name := "lawS1348BPlaceFind", fn := fun _ => fun
  | [d1, d2, d3] => { results := [.lit (.bool false)], args := [d1, d2, d3] }
  | _ => none }
def LawS1348BPlaceFindWrongFalsely : Prop := lawS1348BPlaceFindRow.holds Yba.pinned (OpenSpec.ofChange lawS1348BPlaceFindWrong)

end Rows
end Go.Proofs.Ybulkaaww
