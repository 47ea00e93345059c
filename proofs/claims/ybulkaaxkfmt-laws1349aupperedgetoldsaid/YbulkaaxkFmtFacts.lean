/-
  Closed facts on fmt's stopped fronts at this program's numbers, each by the kernel.
-/
import Derived.Test.YbulkaaxkFmtRows
import Derived.Stop.CallBack
import Derived.Stop.IfaceNil
import GoSem.ClaimData
namespace Go.Proofs.YbulkaaxkFmt
open Go.Extern.Stop Go.Stop Go.Extern

/-- fmt.errorf: a stop that calls its operands' methods. -/
@[go_sem] theorem call10 (args : Array Value) (w : World) : (callFunc 10 args).run Ybaf.prog w = (FmtCalls.errorf #[9, 33] #[25] args).run Ybaf.prog w :=
  run_callFunc_next Ybaf.func10 (by kernel_rfl) (by kernel_rfl) (by kernel_rfl) args w
/-- fmt.Sprintf: a plain stop. -/
@[go_sem] theorem call14 (args : Array Value) (w : World) : (callFunc 14 args).run Ybaf.prog w = ((FmtStop.sprintf #[9, 33] #[9] args).run Ybaf.prog w).andThen fun v w' => .ok (.value v) w' :=
  run_callFunc_extern Ybaf.func14 (by kernel_rfl) (by kernel_rfl) (by kernel_rfl) (by kernel_rfl) args w
@[go_sem] theorem guard (name : String) (w : World) : (FmtStop.guard name).run Ybaf.prog w = .ok () w := by kernel_rfl
theorem nextTurns : Extern.next FmtCalls.turnsRow = some (FmtCalls.begun #[] #[]) := by kernel_rfl
theorem nextReturned : Extern.next FmtCalls.returnedRow = some (FmtCalls.returned #[] #[]) := by kernel_rfl
/-- The two formats. -/
@[go_sem] theorem fmt0 : FmtStop.printed? ⟨#[37, 118, 32, 105, 115, 32, 111, 117, 116, 115, 105, 100, 101, 32, 37, 118, 32, 116, 111, 32, 37, 118, 44, 32, 116, 104, 101, 32, 100, 97, 116, 101, 115, 32, 116, 104, 101, 32, 102, 111, 114, 109, 97, 116, 32, 99, 97, 110, 32, 119, 114, 105, 116, 101]⟩ 3 = some [(0, 118, false), (1, 118, false), (2, 118, false)] := by kernel_rfl
@[go_sem] theorem fmt0r (w : World) : (FmtDoors.printed ⟨#[37, 118, 32, 105, 115, 32, 111, 117, 116, 115, 105, 100, 101, 32, 37, 118, 32, 116, 111, 32, 37, 118, 44, 32, 116, 104, 101, 32, 100, 97, 116, 101, 115, 32, 116, 104, 101, 32, 102, 111, 114, 109, 97, 116, 32, 99, 97, 110, 32, 119, 114, 105, 116, 101]⟩ 3).run Ybaf.prog w = .ok [(0, 118, false), (1, 118, false), (2, 118, false)] w := by kernel_rfl
@[go_sem] theorem fmt1 : FmtStop.printed? ⟨#[37, 48, 52, 100, 45, 37, 48, 50, 100, 45, 37, 48, 50, 100]⟩ 3 = some [(0, 100, false), (1, 100, false), (2, 100, false)] := by kernel_rfl
@[go_sem] theorem fmt1r (w : World) : (FmtDoors.printed ⟨#[37, 48, 52, 100, 45, 37, 48, 50, 100, 45, 37, 48, 50, 100]⟩ 3).run Ybaf.prog w = .ok [(0, 100, false), (1, 100, false), (2, 100, false)] w := by kernel_rfl
/-- A Date as an operand of Errorf: its String is called. -/
@[go_sem] theorem act23 (name : String) (x : Value) (w : World) : (FmtCalls.act name true 118 false (.iface 23 x)).run Ybaf.prog w = .ok (.call false) w := by kernel_rfl
@[go_sem] theorem isString23 (w : World) : (FmtDoors.textMethod 23 "String").run Ybaf.prog w = .ok true w := by kernel_rfl
theorem invokeString23 (x : Value) (w : World) : (invoke (.fn (.method "String") #[]) #[.iface 23 x]).run Ybaf.prog w = .ok (.enter 12 #[x]) w := by kernel_rfl
@[go_sem] theorem str23 (w : World) : (typeStr 23).run Ybaf.prog w = .ok "record.Date" w := by kernel_rfl
/-- An int as an operand of Sprintf. -/
def shape3 : List UInt8 := [5, 3, 0, 0, 0, 0, 0, 0, 0, 105, 110, 116]
@[go_sem] theorem op3 (name : String) (x : Int) (w : World) : (FmtStop.operand name false 100 false (.iface 3 (.int .i64 x))).run Ybaf.prog w = .ok (shape3, Go.Extern.Stop.digits 8 (x % 2 ^ 64).toNat) w := by kernel_rfl
@[go_sem] theorem str3 (w : World) : (typeStr 3).run Ybaf.prog w = .ok "int" w := by kernel_rfl
/-- The error type that fmt.errorf makes. -/
@[go_sem] theorem ptr37 (w : World) : (FmtStop.ptrTo "errors.errorString").run Ybaf.prog w = .ok 37 w := by kernel_rfl
@[go_sem] theorem elem37 (w : World) : (elemOf 37).run Ybaf.prog w = .ok 39 w := by kernel_rfl
@[go_sem] theorem isError37 (w : World) : (FmtDoors.textMethod 37 "Error").run Ybaf.prog w = .ok true w := by kernel_rfl
end Go.Proofs.YbulkaaxkFmt
