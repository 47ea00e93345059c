/-
  DERIVED. GIVEN WITH THE SEED: THE CARDS: each row of YbulkaaxkFmtRows.lean that lists a variable, with what it lists TIED to the program's text (the seventh form; the later family's looks); each row that meets fmt, with fmt's text TOLD by the authors' own Lean function (tested against real Go, not proved from fmt's source: count such statements apart). THE CARD IS WHAT COUNTS. Prove the row's statement (the work); the ties are given (YbulkaaxkFmtTie.lean); close each card by the builder's one call (the guide's Derived/Test/ToyasCard.lean, 'card_holds'). Laid BY PROGRAM, IN A SANDBOX (cutbox-door.mjs). By AI agents, Wed Nov 11 2026. No macro, syntax, notation, axiom, sorry.
-/
import Derived.Test.YbulkaaxkFmtRows
import GoSem.ClaimSeven
namespace Go.Proofs.YbulkaaxkFmt
namespace Rows

/-- THE TOLD AND TIED CARD OF 'record.LawS1349AWritable'. -/
def lawS1349AWritableCard : Claim7 := { stood := { row := lawS1349AWritableRow, standIns := [], harness := (true, "bf0d6815ff7b943e9c4621e41ef2d736e9fb81155b664b19fa0ad1e85dc14074"), looks := false }, told := true, laidByText := true, laidKinds := [.data, .data], laidTests := true, laidLooks := .later, goes := false }
def LawS1349AWritableToldSaid : Prop := Claim7.holds Ybaf.pinned (.plain (OpenSpec.ofChange lawS1349AWritableSpec)) lawS1349AWritableCard
/-- ITS FALSE NEIGHBOUR. Refute it at one input. -/
def LawS1349AWritableToldWrongFalsely : Prop := Claim7.holds Ybaf.pinned (.plain (OpenSpec.ofChange lawS1349AWritableWrong)) lawS1349AWritableCard

/-- THE TOLD AND TIED CARD OF 'record.LawS1349AUpperEdge'. -/
def lawS1349AUpperEdgeCard : Claim7 := { stood := { row := lawS1349AUpperEdgeRow, standIns := [], harness := (true, "bf0d6815ff7b943e9c4621e41ef2d736e9fb81155b664b19fa0ad1e85dc14074"), looks := false }, told := true, laidByText := true, laidKinds := [.data, .data], laidTests := true, laidLooks := .later, goes := false }
def LawS1349AUpperEdgeToldSaid : Prop := Claim7.holds Ybaf.pinned (.plain (OpenSpec.ofChange lawS1349AUpperEdgeSpec)) lawS1349AUpperEdgeCard
/-- ITS FALSE NEIGHBOUR. Refute it at one input. -/
def LawS1349AUpperEdgeToldWrongFalsely : Prop := Claim7.holds Ybaf.pinned (.plain (OpenSpec.ofChange lawS1349AUpperEdgeWrong)) lawS1349AUpperEdgeCard
end Rows
end Go.Proofs.YbulkaaxkFmt
