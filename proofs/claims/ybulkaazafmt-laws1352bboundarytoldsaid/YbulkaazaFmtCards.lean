/-
  DERIVED. GIVEN WITH THE SEED: THE CARDS: each row of YbulkaazaFmtRows.lean that lists a variable, with what it lists TIED to the program's text (the seventh form; the later family's looks); each row that meets fmt, with fmt's text TOLD by the authors' own Lean function (tested against real Go, not proved from fmt's source: count such statements apart). THE CARD IS WHAT COUNTS. Prove the row's statement (the work); the ties are given (YbulkaazaFmtTie.lean); close each card by the builder's one call (the guide's Derived/Test/ToyasCard.lean, 'card_holds'). Laid BY PROGRAM, IN A SANDBOX (cutbox-door.mjs). By AI agents, Wed Nov 11 2026. No macro, syntax, notation, axiom, sorry.
-/
import Derived.Test.YbulkaazaFmtRows
import GoSem.ClaimSeven
namespace Go.Proofs.YbulkaazaFmt
namespace Rows

/-- THE TOLD CARD OF 'muster.LawS1352BAnyMeta'. -/
def lawS1352BAnyMetaCard : Claim7 := { stood := { row := lawS1352BAnyMetaRow, standIns := [], harness := (true, "08b60c00f50a78b94ee70fd30571feb833e9fd96c37883fa26545e7e76cc1353"), looks := false }, told := true, goes := false }
def LawS1352BAnyMetaToldSaid : Prop := Claim7.holds Ybaf.pinned (.plain (OpenSpec.ofChange lawS1352BAnyMetaSpec)) lawS1352BAnyMetaCard
/-- ITS FALSE NEIGHBOUR. Refute it at one input. -/
def LawS1352BAnyMetaToldWrongFalsely : Prop := Claim7.holds Ybaf.pinned (.plain (OpenSpec.ofChange lawS1352BAnyMetaWrong)) lawS1352BAnyMetaCard

/-- THE TOLD CARD OF 'muster.LawS1352BBoundary'. -/
def lawS1352BBoundaryCard : Claim7 := { stood := { row := lawS1352BBoundaryRow, standIns := [], harness := (true, "08b60c00f50a78b94ee70fd30571feb833e9fd96c37883fa26545e7e76cc1353"), looks := false }, told := true, goes := false }
def LawS1352BBoundaryToldSaid : Prop := Claim7.holds Ybaf.pinned (.plain (OpenSpec.ofChange lawS1352BBoundarySpec)) lawS1352BBoundaryCard
/-- ITS FALSE NEIGHBOUR. Refute it at one input. -/
def LawS1352BBoundaryToldWrongFalsely : Prop := Claim7.holds Ybaf.pinned (.plain (OpenSpec.ofChange lawS1352BBoundaryWrong)) lawS1352BBoundaryCard
end Rows
end Go.Proofs.YbulkaazaFmt
