/-
  NARROWER THAN 'FOR EVERY INPUT', by the rows' own cells (each row's printed sentence says how): LawS1349AWritable: laid · LawS1349AUpperEdge: laid.
  DERIVED. THE GIVEN ROWS OF THIS SEAT. 2 by the template 'for every input the law returns true; each argument reads behind the call as it read before'; 0 by the template 'total and deterministic' (their statements: YbulkaaxkFmtTotals.lean).
  GIVEN WITH THE SEED: the statements are not yours to turn. If you find one false, say at which input.
  Laid BY PROGRAM, IN A SANDBOX (cutbox-rows.mjs): the forced cells as the released guide's own fill.sh prints them over the translation 08cb0fd64eb27667… (all of the seat's roots in one cut). By AI agents, Wed Nov 11 2026. No macro, syntax, notation, axiom, sorry.
-/
import Derived.Test.YbulkaaxkFmtChecked
import GoSem.Claim
import GoSem.ClaimJoined
import GoSem.ClaimMapViews
import Derived.JoinedTies
import Derived.KernelRfl
namespace Go.Proofs.YbulkaaxkFmt
/- THE CELL 'sum', in the pinned program and in every row, IS THE sha256 OF THE DUMP (.gsa) THAT YbulkaaxkFmtProg.lean LOADS. Nothing in Lean hashes anything: it is a label: what it is worth is what the hold of that sum in a sandbox is worth. -/
noncomputable def Ybaf.pinned : Pinned := { name := "ybulkaaxkfmt", sum := "08cb0fd64eb27667cb566b200a5255d46d1a2c6048d0a9e3c562341e7091b4bb", checked := Ybaf.checked }
namespace Rows
def none {H : Type} : Left H := { results := [], args := [] }

/- WHAT THE LISTED PACKAGE-LEVEL VARIABLES READ AS WHEN THE CALL BEGINS. Each datum BY PROGRAM (the guide's laid-datum.mjs) off the statement by which the dump's own 'gosem.cut.vars' lays the variable. In a bare row this is a premise. The card (YbulkaaxkFmtCards.lean) ties it to the program's text. -/
def laid_example_com_stint_stint_internal_record_FirstDate {H : Type} : DataW H := .agg [.lit (.int .i64 1), .lit (.int .i64 1), .lit (.int .i64 1)]
def laid_example_com_stint_stint_internal_record_LastDate {H : Type} : DataW H := .agg [.lit (.int .i64 9999), .lit (.int .i64 12), .lit (.int .i64 31)]

/-- 'record.LawS1349AWritable': WHATEVER THE INPUT: true; the input reads as it did. -/
def lawS1349AWritableSpec : ChangeSpec := { name := "lawS1349AWritable", vars := ["example.com/stint/stint/internal/record.FirstDate", "example.com/stint/stint/internal/record.LastDate"], fn := fun _ => fun
  | [d1, d2, d3, g1, g2] => { results := [.lit (.bool true)], args := [d1, d2, d3], vars := [g1, g2] }
  | _ => none }
def lawS1349AWritableRow : OpenClaim := { program := "ybulkaaxkfmt", sum := "08cb0fd64eb27667cb566b200a5255d46d1a2c6048d0a9e3c562341e7091b4bb", func := "example.com/stint/stint/internal/record.LawS1349AWritable", spec := "lawS1349AWritable", stops := ["fmt.errorf, its operands' methods called", "fmt.Sprintf"], inPlace := ["fmt.errorf"], unfollowed := true, recurses := true, named := ["example.com/stint/stint/internal/record.FirstDate", "example.com/stint/stint/internal/record.LastDate"], apart := false, laid := [("example.com/stint/stint/internal/record.FirstDate", laid_example_com_stint_stint_internal_record_FirstDate), ("example.com/stint/stint/internal/record.LastDate", laid_example_com_stint_stint_internal_record_LastDate)] }
/-- NO THEOREM (fmt's text is open here; it may be false): for the released tool's asking of the row's closed facts alone. THE STATEMENT IS 'LawS1349AWritableToldSaid' (YbulkaaxkFmtCards.lean). -/
def LawS1349AWritableFormAsk : Prop := lawS1349AWritableRow.holds Ybaf.pinned (OpenSpec.ofChange lawS1349AWritableSpec)

/-- ITS FALSE NEIGHBOUR: 'it returns false'. Refute it at one input. -/
def lawS1349AWritableWrong : ChangeSpec := { name := "lawS1349AWritable", vars := ["example.com/stint/stint/internal/record.FirstDate", "example.com/stint/stint/internal/record.LastDate"], fn := fun _ => fun
  | [d1, d2, d3, g1, g2] => { results := [.lit (.bool false)], args := [d1, d2, d3], vars := [g1, g2] }
  | _ => none }
def LawS1349AWritableWrongFormAsk : Prop := lawS1349AWritableRow.holds Ybaf.pinned (OpenSpec.ofChange lawS1349AWritableWrong)

/-- 'record.LawS1349AUpperEdge': WHATEVER THE INPUT: true; the input reads as it did. -/
def lawS1349AUpperEdgeSpec : ChangeSpec := { name := "lawS1349AUpperEdge", vars := ["example.com/stint/stint/internal/record.FirstDate", "example.com/stint/stint/internal/record.LastDate"], fn := fun _ => fun
  | [d1, d2, d3, g1, g2] => { results := [.lit (.bool true)], args := [d1, d2, d3], vars := [g1, g2] }
  | _ => none }
def lawS1349AUpperEdgeRow : OpenClaim := { program := "ybulkaaxkfmt", sum := "08cb0fd64eb27667cb566b200a5255d46d1a2c6048d0a9e3c562341e7091b4bb", func := "example.com/stint/stint/internal/record.LawS1349AUpperEdge", spec := "lawS1349AUpperEdge", stops := ["fmt.errorf, its operands' methods called", "fmt.Sprintf"], inPlace := ["fmt.errorf"], unfollowed := true, recurses := true, named := ["example.com/stint/stint/internal/record.FirstDate", "example.com/stint/stint/internal/record.LastDate"], apart := false, laid := [("example.com/stint/stint/internal/record.FirstDate", laid_example_com_stint_stint_internal_record_FirstDate), ("example.com/stint/stint/internal/record.LastDate", laid_example_com_stint_stint_internal_record_LastDate)] }
/-- NO THEOREM (fmt's text is open here; it may be false): for the released tool's asking of the row's closed facts alone. THE STATEMENT IS 'LawS1349AUpperEdgeToldSaid' (YbulkaaxkFmtCards.lean). -/
def LawS1349AUpperEdgeFormAsk : Prop := lawS1349AUpperEdgeRow.holds Ybaf.pinned (OpenSpec.ofChange lawS1349AUpperEdgeSpec)

/-- ITS FALSE NEIGHBOUR: 'it returns false'. Refute it at one input. -/
def lawS1349AUpperEdgeWrong : ChangeSpec := { name := "lawS1349AUpperEdge", vars := ["example.com/stint/stint/internal/record.FirstDate", "example.com/stint/stint/internal/record.LastDate"], fn := fun _ => fun
  | [d1, d2, d3, g1, g2] => { results := [.lit (.bool false)], args := [d1, d2, d3], vars := [g1, g2] }
  | _ => none }
def LawS1349AUpperEdgeWrongFormAsk : Prop := lawS1349AUpperEdgeRow.holds Ybaf.pinned (OpenSpec.ofChange lawS1349AUpperEdgeWrong)

end Rows
end Go.Proofs.YbulkaaxkFmt
