/-
  No cell of these rows narrows 'for every input' (looked for: loops, veiled, ifaces, maps, wideKeys, modest, calm, conditions, laid).
  DERIVED. THE GIVEN ROWS OF THIS SEAT. 1 by the template 'for every input the law returns true; each argument reads behind the call as it read before'; 0 by the template 'total and deterministic' (their statements: YbulkaazaTotals.lean).
  GIVEN WITH THE SEED: the statements are not yours to turn. If you find one false, say at which input.
  Laid BY PROGRAM, IN A SANDBOX (cutbox-rows.mjs): the forced cells as the released guide's own fill.sh prints them over the translation d30c8b0d1c15ff52… (all of the seat's roots in one cut). By AI agents, Wed Nov 11 2026. No macro, syntax, notation, axiom, sorry.
-/
import Derived.Test.YbulkaazaChecked
import GoSem.Claim
import GoSem.ClaimJoined
import GoSem.ClaimMapViews
import Derived.JoinedTies
import Derived.KernelRfl
namespace Go.Proofs.Ybulkaaza
/- THE CELL 'sum', in the pinned program and in every row, IS THE sha256 OF THE DUMP (.gsa) THAT YbulkaazaProg.lean LOADS. Nothing in Lean hashes anything: it is a label: what it is worth is what the hold of that sum in a sandbox is worth. -/
noncomputable def Yba.pinned : Pinned := { name := "ybulkaaza", sum := "d30c8b0d1c15ff5218aa177dc3cbc99a7f8155a5808e21d33b6b3aff57fc2862", checked := Yba.checked }
namespace Rows
def none {H : Type} : Left H := { results := [], args := [] }

/-- 'swim.LawS1352CExplicit': WHATEVER THE INPUT: true; the input reads as it did. -/
def lawS1352CExplicitSpec : ChangeSpec := { name := "lawS1352CExplicit", fn := fun _ => fun
  | [d] => { results := [.lit (.bool true)], args := [d] }
  | _ => none }
def lawS1352CExplicitRow : OpenClaim := { program := "ybulkaaza", sum := "d30c8b0d1c15ff5218aa177dc3cbc99a7f8155a5808e21d33b6b3aff57fc2862", func := "example.com/muster/muster/internal/swim.LawS1352CExplicit", spec := "lawS1352CExplicit", plainKeys := false, apart := false }
def LawS1352CExplicitSaid : Prop := lawS1352CExplicitRow.holds Yba.pinned (OpenSpec.ofChange lawS1352CExplicitSpec)

/-- ITS FALSE NEIGHBOUR: 'it returns false'. Refute it at one input. -/
def lawS1352CExplicitWrong : ChangeSpec := { name := "lawS1352CExplicit", fn := fun _ => fun
  | [d] => { results := [.lit (.bool false)], args := [d] }
  | _ => none }
def LawS1352CExplicitWrongFalsely : Prop := lawS1352CExplicitRow.holds Yba.pinned (OpenSpec.ofChange lawS1352CExplicitWrong)

end Rows
end Go.Proofs.Ybulkaaza
