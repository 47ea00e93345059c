/-
  No cell of these rows narrows 'for every input' (looked for: loops, veiled, ifaces, maps, wideKeys, modest, calm, conditions, laid).
  DERIVED. THE GIVEN ROWS OF THIS SEAT. 2 by the template 'for every input the law returns true; each argument reads behind the call as it read before'; 0 by the template 'total and deterministic' (their statements: YbulkaazaFmtTotals.lean).
  GIVEN WITH THE SEED: the statements are not yours to turn. If you find one false, say at which input.
  Laid BY PROGRAM, IN A SANDBOX (cutbox-rows.mjs): the forced cells as the released guide's own fill.sh prints them over the translation dc8d56763878703d… (all of the seat's roots in one cut). By AI agents, Wed Nov 11 2026. No macro, syntax, notation, axiom, sorry.
-/
import Derived.Test.YbulkaazaFmtChecked
import GoSem.Claim
import GoSem.ClaimJoined
import GoSem.ClaimMapViews
import Derived.JoinedTies
import Derived.KernelRfl
namespace Go.Proofs.YbulkaazaFmt
/- THE CELL 'sum', in the pinned program and in every row, IS THE sha256 OF THE DUMP (.gsa) THAT YbulkaazaFmtProg.lean LOADS. Nothing in Lean hashes anything: it is a label: what it is worth is what the hold of that sum in a sandbox is worth. -/
noncomputable def Ybaf.pinned : Pinned := { name := "ybulkaazafmt", sum := "dc8d56763878703db2c5eb56928c8a9d642324c4873aa3ab8a59159d4e83ccd4", checked := Ybaf.checked }
namespace Rows
def none {H : Type} : Left H := { results := [], args := [] }

/-- 'muster.LawS1352BAnyMeta': WHATEVER THE INPUT: true; the input reads as it did. -/
def lawS1352BAnyMetaSpec : ChangeSpec := { name := "lawS1352BAnyMeta", fn := fun _ => fun
  | [d] => { results := [.lit (.bool true)], args := [d] }
  | _ => none }
def lawS1352BAnyMetaRow : OpenClaim := { program := "ybulkaazafmt", sum := "dc8d56763878703db2c5eb56928c8a9d642324c4873aa3ab8a59159d4e83ccd4", func := "example.com/muster/muster.LawS1352BAnyMeta", spec := "lawS1352BAnyMeta", stops := ["fmt.errorf"], inPlace := ["fmt.errorf"], apart := false }
/-- NO THEOREM (fmt's text is open here; it may be false): for the released tool's asking of the row's closed facts alone. THE STATEMENT IS 'LawS1352BAnyMetaToldSaid' (YbulkaazaFmtCards.lean). -/
def LawS1352BAnyMetaFormAsk : Prop := lawS1352BAnyMetaRow.holds Ybaf.pinned (OpenSpec.ofChange lawS1352BAnyMetaSpec)

/-- ITS FALSE NEIGHBOUR: 'it returns false'. Refute it at one input. -/
def lawS1352BAnyMetaWrong : ChangeSpec := { name := "lawS1352BAnyMeta", fn := fun _ => fun
  | [d] => { results := [.lit (.bool false)], args := [d] }
  | _ => none }
def LawS1352BAnyMetaWrongFormAsk : Prop := lawS1352BAnyMetaRow.holds Ybaf.pinned (OpenSpec.ofChange lawS1352BAnyMetaWrong)

/-- 'muster.LawS1352BBoundary': WHATEVER THE INPUT: true; the input reads as it did. -/
def lawS1352BBoundarySpec : ChangeSpec := { name := "lawS1352BBoundary", fn := fun _ => fun
  | [d1, d2] => { results := [.lit (.bool true)], args := [d1, d2] }
  | _ => none }
def lawS1352BBoundaryRow : OpenClaim := { program := "ybulkaazafmt", sum := "dc8d56763878703db2c5eb56928c8a9d642324c4873aa3ab8a59159d4e83ccd4", func := "example.com/muster/muster.LawS1352BBoundary", spec := "lawS1352BBoundary", stops := ["fmt.errorf"], inPlace := ["fmt.errorf"], apart := false }
/-- NO THEOREM (fmt's text is open here; it may be false): for the released tool's asking of the row's closed facts alone. THE STATEMENT IS 'LawS1352BBoundaryToldSaid' (YbulkaazaFmtCards.lean). -/
def LawS1352BBoundaryFormAsk : Prop := lawS1352BBoundaryRow.holds Ybaf.pinned (OpenSpec.ofChange lawS1352BBoundarySpec)

/-- ITS FALSE NEIGHBOUR: 'it returns false'. Refute it at one input. -/
def lawS1352BBoundaryWrong : ChangeSpec := { name := "lawS1352BBoundary", fn := fun _ => fun
  | [d1, d2] => { results := [.lit (.bool false)], args := [d1, d2] }
  | _ => none }
def LawS1352BBoundaryWrongFormAsk : Prop := lawS1352BBoundaryRow.holds Ybaf.pinned (OpenSpec.ofChange lawS1352BBoundaryWrong)

end Rows
end Go.Proofs.YbulkaazaFmt
