/-
  NARROWER THAN 'FOR EVERY INPUT', by the rows' own cells (each row's printed sentence says how): LawS1354AModel: ifaces, laid · LawS1354ARoundTrip: ifaces, laid.
  DERIVED. THE GIVEN ROWS OF THIS SEAT. 2 by the template 'for every input the law returns true; each argument reads behind the call as it read before'; 0 by the template 'total and deterministic' (their statements: YbulkabacFmtTotals.lean).
  GIVEN WITH THE SEED: the statements are not yours to turn. If you find one false, say at which input.
  Laid BY PROGRAM, IN A SANDBOX (cutbox-rows.mjs): the forced cells as the released guide's own fill.sh prints them over the translation f38c30a0879224a5… (all of the seat's roots in one cut). By AI agents, Wed Nov 11 2026. No macro, syntax, notation, axiom, sorry.
-/
import Derived.Test.YbulkabacFmtChecked
import GoSem.Claim
import GoSem.ClaimJoined
import GoSem.ClaimMapViews
import Derived.JoinedTies
import Derived.KernelRfl
namespace Go.Proofs.YbulkabacFmt
/- THE CELL 'sum', in the pinned program and in every row, IS THE sha256 OF THE DUMP (.gsa) THAT YbulkabacFmtProg.lean LOADS. Nothing in Lean hashes anything: it is a label: what it is worth is what the hold of that sum in a sandbox is worth. -/
noncomputable def Ybaf.pinned : Pinned := { name := "ybulkabacfmt", sum := "f38c30a0879224a5932f731d2e3bbbe3b9af1368000793caa9c45484668236d1", checked := Ybaf.checked }
namespace Rows
def none {H : Type} : Left H := { results := [], args := [] }

/- WHAT THE LISTED PACKAGE-LEVEL VARIABLES READ AS WHEN THE CALL BEGINS. Each datum BY PROGRAM (the guide's laid-datum.mjs) off the statement by which the dump's own 'gosem.cut.vars' lays the variable. In a bare row this is a premise. The card (YbulkabacFmtCards.lean) ties it to the program's text. -/
def laid_example_com_parley_parley_internal_clienthello_ErrMalformed {H : Type} : DataW H := .iface "*errors.errorString" (.ptr (.agg [.lit (.string [109, 97, 108, 102, 111, 114, 109, 101, 100, 32, 67, 108, 105, 101, 110, 116, 72, 101, 108, 108, 111])]))

/-- 'clienthello.LawS1354AModel': WHATEVER THE INPUT: true; the input reads as it did. -/
def lawS1354AModelSpec : ChangeSpec := { name := "lawS1354AModel", vars := ["example.com/parley/parley/internal/clienthello.ErrMalformed"], fn := fun _ => fun
  | [d, g1] => { results := [.lit (.bool true)], args := [d], vars := [g1] }
  | _ => none }
def lawS1354AModelRow : OpenClaim := { program := "ybulkabacfmt", sum := "f38c30a0879224a5932f731d2e3bbbe3b9af1368000793caa9c45484668236d1", func := "example.com/parley/parley/internal/clienthello.LawS1354AModel", spec := "lawS1354AModel", stops := ["fmt.errorf"], inPlace := ["fmt.errorf", "internal/reflectlite.TypeOf"], unfollowed := true, recurses := true, named := ["example.com/parley/parley/internal/clienthello.ErrMalformed"], ifaces := true, apart := false, laid := [("example.com/parley/parley/internal/clienthello.ErrMalformed", laid_example_com_parley_parley_internal_clienthello_ErrMalformed)] }
/-- NO THEOREM (fmt's text is open here; it may be false): for the released tool's asking of the row's closed facts alone. THE STATEMENT IS 'LawS1354AModelToldSaid' (YbulkabacFmtCards.lean). -/
def LawS1354AModelFormAsk : Prop := lawS1354AModelRow.holds Ybaf.pinned (OpenSpec.ofChange lawS1354AModelSpec)

/-- ITS FALSE NEIGHBOUR: 'it returns false'. Refute it at one input. -/
def lawS1354AModelWrong : ChangeSpec := { name := "lawS1354AModel", vars := ["example.com/parley/parley/internal/clienthello.ErrMalformed"], fn := fun _ => fun
  | [d, g1] => { results := [.lit (.bool false)], args := [d], vars := [g1] }
  | _ => none }
def LawS1354AModelWrongFormAsk : Prop := lawS1354AModelRow.holds Ybaf.pinned (OpenSpec.ofChange lawS1354AModelWrong)

/-- 'clienthello.LawS1354ARoundTrip': WHATEVER THE INPUT: true; the input reads as it did. -/
def lawS1354ARoundTripSpec : ChangeSpec := { name := "lawS1354ARoundTrip", vars := ["example.com/parley/parley/internal/clienthello.ErrMalformed"], fn := fun _ => fun
  | [d1, d2, g1] => { results := [.lit (.bool true)], args := [d1, d2], vars := [g1] }
  | _ => none }
def lawS1354ARoundTripRow : OpenClaim := { program := "ybulkabacfmt", sum := "f38c30a0879224a5932f731d2e3bbbe3b9af1368000793caa9c45484668236d1", func := "example.com/parley/parley/internal/clienthello.LawS1354ARoundTrip", spec := "lawS1354ARoundTrip", stops := ["fmt.errorf"], inPlace := ["fmt.errorf", "internal/reflectlite.TypeOf"], unfollowed := true, recurses := true, named := ["example.com/parley/parley/internal/clienthello.ErrMalformed"], ifaces := true, apart := false, laid := [("example.com/parley/parley/internal/clienthello.ErrMalformed", laid_example_com_parley_parley_internal_clienthello_ErrMalformed)] }
/-- NO THEOREM (fmt's text is open here; it may be false): for the released tool's asking of the row's closed facts alone. THE STATEMENT IS 'LawS1354ARoundTripToldSaid' (YbulkabacFmtCards.lean). -/
def LawS1354ARoundTripFormAsk : Prop := lawS1354ARoundTripRow.holds Ybaf.pinned (OpenSpec.ofChange lawS1354ARoundTripSpec)

/-- ITS FALSE NEIGHBOUR: 'it returns false'. Refute it at one input. -/
def lawS1354ARoundTripWrong : ChangeSpec := { name := "lawS1354ARoundTrip", vars := ["example.com/parley/parley/internal/clienthello.ErrMalformed"], fn := fun _ => fun
  | [d1, d2, g1] => { results := [.lit (.bool false)], args := [d1, d2], vars := [g1] }
  | _ => none }
def LawS1354ARoundTripWrongFormAsk : Prop := lawS1354ARoundTripRow.holds Ybaf.pinned (OpenSpec.ofChange lawS1354ARoundTripWrong)

end Rows
end Go.Proofs.YbulkabacFmt
