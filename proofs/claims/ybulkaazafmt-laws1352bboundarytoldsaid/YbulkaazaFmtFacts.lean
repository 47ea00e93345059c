/-
  Closed facts on fmt's stopped front at this program's numbers, each by the kernel.
-/
import Derived.Test.YbulkaazaFmtRows
import Derived.Stop.CallBack
import Derived.Stop.IfaceNil
import GoSem.ClaimData
namespace Go.Proofs.YbulkaazaFmt
open Go.Extern.Stop Go.Stop Go.Extern

/-- fmt.errorf: a plain stop. -/
@[go_sem] theorem call8 (args : Array Value) (w : World) : (callFunc 8 args).run Ybaf.prog w = ((FmtStop.errorf #[9, 30] #[24] args).run Ybaf.prog w).andThen fun v w' => .ok (.value v) w' :=
  run_callFunc_extern Ybaf.func8 (by kernel_rfl) (by kernel_rfl) (by kernel_rfl) (by kernel_rfl) args w
@[go_sem] theorem guard (name : String) (w : World) : (FmtStop.guard name).run Ybaf.prog w = .ok () w := by kernel_rfl
/-- The format. -/
@[go_sem] theorem fmt0 : FmtStop.printed? ⟨#[105, 110, 118, 97, 108, 105, 100, 32, 109, 101, 116, 97, 100, 97, 116, 97, 32, 111, 102, 32, 37, 100, 32, 98, 121, 116, 101, 115, 58, 32, 119, 97, 110, 116, 32, 97, 116, 32, 109, 111, 115, 116, 32, 37, 100]⟩ 2 = some [(0, 100, false), (1, 100, false)] := by kernel_rfl
@[go_sem] theorem fmt0r (w : World) : (FmtDoors.printed ⟨#[105, 110, 118, 97, 108, 105, 100, 32, 109, 101, 116, 97, 100, 97, 116, 97, 32, 111, 102, 32, 37, 100, 32, 98, 121, 116, 101, 115, 58, 32, 119, 97, 110, 116, 32, 97, 116, 32, 109, 111, 115, 116, 32, 37, 100]⟩ 2).run Ybaf.prog w = .ok [(0, 100, false), (1, 100, false)] w := by kernel_rfl
/-- An int as an operand. -/
def shape3 : List UInt8 := [5, 3, 0, 0, 0, 0, 0, 0, 0, 105, 110, 116]
@[go_sem] theorem op3 (name : String) (x : Int) (w : World) : (FmtStop.operand name true 100 false (.iface 3 (.int .i64 x))).run Ybaf.prog w = .ok (shape3, Go.Extern.Stop.digits 8 (x % 2 ^ 64).toNat) w := by kernel_rfl
@[go_sem] theorem str3 (w : World) : (typeStr 3).run Ybaf.prog w = .ok "int" w := by kernel_rfl
/-- The error type that fmt.errorf makes. -/
@[go_sem] theorem ptr33 (w : World) : (FmtStop.ptrTo "errors.errorString").run Ybaf.prog w = .ok 33 w := by kernel_rfl
@[go_sem] theorem elem33' (w : World) : (elemOf 33).run Ybaf.prog w = .ok 35 w := by kernel_rfl
@[go_sem] theorem isError33 (w : World) : (FmtDoors.textMethod 33 "Error").run Ybaf.prog w = .ok true w := by kernel_rfl
end Go.Proofs.YbulkaazaFmt
