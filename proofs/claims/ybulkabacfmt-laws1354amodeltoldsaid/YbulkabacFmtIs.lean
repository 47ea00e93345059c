/-
  errors.Is at an error that wraps the sentinel, and the closed facts on fmt's stopped front.
-/
import Derived.Test.YbulkabacFmtRows
import Derived.WalkKit
import Derived.ProofKit
import Derived.Handy
import Derived.WalkSpells
import Derived.LaidEql
import Derived.Stop.Asserts
import Derived.Stop.CallBack
import Derived.Stop.IfaceNil
import Derived.RowKitTokens
namespace Go.Proofs.YbulkabacFmt
open Go.RowKit Go.Extern.Stop Go.Stop Go.Extern

theorem isTypeOf (v : Value) (w : World) : (callFunc 11 #[.iface 61 v]).run Ybaf.prog w = .ok (.value (.iface 51 (.agg #[.pointer (some ⟨1, 61, none⟩)]))) w := by kernel_rfl
theorem isComparable (w : World) : (callFunc 36 #[.agg #[.pointer (some ⟨1, 61, none⟩)]]).run Ybaf.prog w = .ok (.value (.bool true)) w := by kernel_rfl
theorem isComp : (Ybaf.prog.info? 61).map (·.comparable) = some true := by kernel_rfl
theorem isSize : (Ybaf.prog.info? 63).map (·.size) = some 1 := by kernel_rfl
theorem noIsE (v : Value) (xT : TypeId) (w : World) : (Instr.typeAssert (.iface 61 v) xT 53 true).run Ybaf.prog w = .ok (.tuple #[.nilIface, .bool false]) w := run_typeAssert_lacksB Ybaf.underlying53 (by kernel_rfl) (by kernel_rfl) v xT w
theorem noIsW (v : Value) (xT : TypeId) (w : World) : (Instr.typeAssert (.iface 49 v) xT 53 true).run Ybaf.prog w = .ok (.tuple #[.nilIface, .bool false]) w := run_typeAssert_lacksB Ybaf.underlying53 (by kernel_rfl) (by kernel_rfl) v xT w
theorem hasUnwrapW (v : Value) (xT : TypeId) (w : World) : (Instr.typeAssert (.iface 49 v) xT 56 true).run Ybaf.prog w = .ok (.tuple #[.iface 49 v, .bool true]) w := run_typeAssert_hasB Ybaf.underlying56 (by kernel_rfl) v xT w

set_option maxHeartbeats 1000000 in
/-- errors.Is(e, x), e a wrapError that wraps x itself. -/
theorem is_wrap_same (pb po : Nat) (b : Addr) (w : World) (h1 : w.cell? ⟨pb, po + 1, none⟩ = some (.iface 61 (.pointer (some b)))) :
    Calls Ybaf.prog 7 #[.iface 49 (.pointer (some ⟨pb, po, none⟩)), .iface 61 (.pointer (some b))] w fun e w' => e = .returned (.bool true) ∧ w' = w := by
  obtain ⟨i, hi, hcmp⟩ := Option.map_eq_some_iff.1 isComp
  obtain ⟨j, hj, hjs⟩ := Option.map_eq_some_iff.1 isSize
  have tT := isTypeOf
  have cT := isComparable
  have nE := noIsE
  have nW := noIsW
  have uW := hasUnwrapW
  have heq := run_eql_iface_ptr_same (P := Ybaf.prog) w b Ybaf.underlying26 Ybaf.underlying61 hi hcmp hj
  have hty := run_eql_iface_types (P := Ybaf.prog) 49 61 (.pointer (some ⟨pb, po, none⟩)) (.pointer (some b)) Ybaf.underlying26 (by decide) w
  go_enter Ybaf.func7, Ybaf.ntmps7
  go_wp2
  refine wp_loop_rounds 2 ?_
  rw [rounds_succ]
  go_wp2
  rw [rounds_succ]
  go_wp2
  go_ret
  exact ⟨rfl, rfl⟩

/-- fmt.errorf: a plain stop. -/
@[go_sem] theorem call13 (args : Array Value) (w : World) : (callFunc 13 args).run Ybaf.prog w = ((FmtStop.errorf #[9, 47] #[26] args).run Ybaf.prog w).andThen fun v w' => .ok (.value v) w' :=
  run_callFunc_extern Ybaf.func13 (by kernel_rfl) (by kernel_rfl) (by kernel_rfl) (by kernel_rfl) args w
@[go_sem] theorem guard (name : String) (w : World) : (FmtStop.guard name).run Ybaf.prog w = .ok () w := by kernel_rfl
@[go_sem] theorem ptr61 (w : World) : (FmtStop.ptrTo "errors.errorString").run Ybaf.prog w = .ok 61 w := by kernel_rfl
@[go_sem] theorem elem61 (w : World) : (elemOf 61).run Ybaf.prog w = .ok 63 w := by kernel_rfl
@[go_sem] theorem isError61 (w : World) : (FmtDoors.textMethod 61 "Error").run Ybaf.prog w = .ok true w := by kernel_rfl
@[go_sem] theorem ptr49 (w : World) : (FmtStop.ptrTo "fmt.wrapError").run Ybaf.prog w = .ok 49 w := by kernel_rfl
@[go_sem] theorem elem49 (w : World) : (elemOf 49).run Ybaf.prog w = .ok 89 w := by kernel_rfl
@[go_sem] theorem isError49 (w : World) : (FmtDoors.textMethod 49 "Error").run Ybaf.prog w = .ok true w := by kernel_rfl
/-- The name of the sentinel's type, off the given row. -/
def star61 : String :=
  match (Rows.laid_example_com_parley_parley_internal_clienthello_ErrMalformed : DataW Unit) with
  | .iface n _ => n
  | _ => toString 0
def plain61 : List UInt8 := 14 :: FmtStop.pack star61.toUTF8.data.toList

/-- An error of errors.New's make under the verb w. -/
theorem opPlain (name : String) (a : Addr) (s : ByteArray) (w : World) (hc : w.cell? a = some (.string s)) :
    (FmtStop.operand name true 119 false (.iface 61 (.pointer (some a)))).run Ybaf.prog w = .ok (plain61, s.data.toList) w := by
  have h1 : (typeStr 61).run Ybaf.prog w = .ok star61 w := by kernel_rfl
  have d2 : Ybaf.t61.desc = .pointer 63 := rfl
  have d3 : Ybaf.t63.desc = .named "errors.errorString" 62 := rfl
  simp [FmtStop.operand, h1, d2, d3, run_load, hc, plain61]

set_option maxHeartbeats 1000000 in
/-- fmt.Errorf at a format with one verb, w, and the sentinel as its operand. -/
theorem errorf_any (F : Interp) (f : ByteArray) (n : Nat) (a : Addr) (s : ByteArray) (w : World) (hF : F.answers w.tape)
    (hpr : ∀ w : World, (FmtDoors.printed f 1).run Ybaf.prog w = .ok [(0, 119, false)] w)
    (c0 : w.cell? ⟨n, 0, none⟩ = some (.iface 61 (.pointer (some a)))) (hs : w.cell? a = some (.string s)) :
    Calls Ybaf.prog 9 #[.string f, .slice (some ⟨n, 0, none⟩) 1 1] w
      fun e w' => ∃ p, e = .returned (.iface 49 (.pointer (some ⟨p, 0, none⟩))) ∧ w'.cell? ⟨p, 1, none⟩ = some (.iface 61 (.pointer (some a))) ∧ Below w.heap.size w w' := by
  have hF' := answers_open hF
  have hop := opPlain "fmt.errorf" a s w hs
  go_enter Ybaf.func9, Ybaf.ntmps9
  go_wp2
  go_ret
  refine ⟨_, rfl, ?_, ?_⟩
  · simp [go_sem]
  · go_grown
end Go.Proofs.YbulkabacFmt
