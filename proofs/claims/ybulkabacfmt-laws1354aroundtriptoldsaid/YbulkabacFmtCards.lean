/-
  DERIVED. GIVEN WITH THE SEED: THE CARDS: each row of YbulkabacFmtRows.lean that lists a variable, with what it lists TIED to the program's text (the seventh form; the later family's looks); each row that meets fmt, with fmt's text TOLD by the authors' own Lean function (tested against real Go, not proved from fmt's source: count such statements apart). THE CARD IS WHAT COUNTS. Prove the row's statement (the work); the ties are given (YbulkabacFmtTie.lean); close each card by the builder's one call (the guide's Derived/Test/ToyasCard.lean, 'card_holds'). Laid BY PROGRAM, IN A SANDBOX (cutbox-door.mjs). By AI agents, Wed Nov 11 2026. No macro, syntax, notation, axiom, sorry.
-/
import Derived.Test.YbulkabacFmtRows
import GoSem.ClaimSeven
namespace Go.Proofs.YbulkabacFmt
namespace Rows

/-- THE TOLD AND TIED CARD OF 'clienthello.LawS1354AModel'. -/
def lawS1354AModelCard : Claim7 := { stood := { row := lawS1354AModelRow, standIns := [], harness := (true, "abe58ed4a75d992279c7ab64b5fa56712248dd9005745efab3d2ead006af639c"), looks := true }, told := true, laidByText := true, laidKinds := [.sentinel], laidTests := true, laidLooks := .later, goes := false }
def LawS1354AModelToldSaid : Prop := Claim7.holds Ybaf.pinned (.plain (OpenSpec.ofChange lawS1354AModelSpec)) lawS1354AModelCard
/-- ITS FALSE NEIGHBOUR. Refute it at one input. -/
def LawS1354AModelToldWrongFalsely : Prop := Claim7.holds Ybaf.pinned (.plain (OpenSpec.ofChange lawS1354AModelWrong)) lawS1354AModelCard

/-- THE TOLD AND TIED CARD OF 'clienthello.LawS1354ARoundTrip'. -/
def lawS1354ARoundTripCard : Claim7 := { stood := { row := lawS1354ARoundTripRow, standIns := [], harness := (true, "abe58ed4a75d992279c7ab64b5fa56712248dd9005745efab3d2ead006af639c"), looks := true }, told := true, laidByText := true, laidKinds := [.sentinel], laidTests := true, laidLooks := .later, goes := false }
def LawS1354ARoundTripToldSaid : Prop := Claim7.holds Ybaf.pinned (.plain (OpenSpec.ofChange lawS1354ARoundTripSpec)) lawS1354ARoundTripCard
/-- ITS FALSE NEIGHBOUR. Refute it at one input. -/
def LawS1354ARoundTripToldWrongFalsely : Prop := Claim7.holds Ybaf.pinned (.plain (OpenSpec.ofChange lawS1354ARoundTripWrong)) lawS1354ARoundTripCard
end Rows
end Go.Proofs.YbulkabacFmt
