/-
  THE CLOSED FACTS FOR A WALK OVER fmt.errorf (a stop that calls its operands' methods), after the make of the guide's LevelsFmt.lean, at this program. Each is proved by the kernel's own evaluation.
-/
import Derived.Test.Qxb6613227aFmtProg
import Derived.Stop.CallBack
import Derived.Stop.IfaceNil
import GoSem.ClaimData
import Derived.KernelRfl
namespace Go.Proofs.Qxb6613227aFmt
open Go.Extern.Stop Go.Stop Go.Extern

-- fmt.errorf: function 23: A STOP THAT CALLS
@[go_sem] theorem call23 (args : Array Value) (w : World) : (callFunc 23 args).run Tryf.prog w = (FmtCalls.errorf #[9, 40] #[29] args).run Tryf.prog w :=
  run_callFunc_next Tryf.func23 (by kernel_rfl) (by kernel_rfl) (by kernel_rfl) args w
@[go_sem] theorem guardOk (name : String) (w : World) : (FmtStop.guard name).run Tryf.prog w = .ok () w := by kernel_rfl
theorem nextTurns : Extern.next FmtCalls.turnsRow = some (FmtCalls.begun #[] #[]) := by kernel_rfl
theorem nextReturned : Extern.next FmtCalls.returnedRow = some (FmtCalls.returned #[] #[]) := by kernel_rfl

-- the one format of the road, one operand under verb s
@[go_sem] theorem fmt0 : FmtStop.printed? ⟨#[105, 110, 99, 108, 117, 100, 101, 32, 99, 121, 99, 108, 101, 58, 32, 37, 115]⟩ 1 = some [(0, 115, false)] := by kernel_rfl
@[go_sem] theorem fmt0r (w : World) : (FmtDoors.printed ⟨#[105, 110, 99, 108, 117, 100, 101, 32, 99, 121, 99, 108, 101, 58, 32, 37, 115]⟩ 1).run Tryf.prog w = .ok [(0, 115, false)] w := by kernel_rfl

-- type 25: *compose.IncludePath
@[go_sem] theorem act25_115 (name : String) (x : Value) (w : World) : (FmtCalls.act name false 115 false (.iface 25 x)).run Tryf.prog w = .ok (.call false) w := by kernel_rfl
@[go_sem] theorem act25_115w (name : String) (x : Value) (w : World) : (FmtCalls.act name true 115 false (.iface 25 x)).run Tryf.prog w = .ok (.call false) w := by kernel_rfl
@[go_sem] theorem isString25 (w : World) : (FmtDoors.textMethod 25 "String").run Tryf.prog w = .ok true w := by kernel_rfl
theorem invokeString25 (x : Value) (w : World) : (invoke (.fn (.method "String") #[]) #[.iface 25 x]).run Tryf.prog w = .ok (.enter 25 #[x]) w := by kernel_rfl
@[go_sem] theorem str25 (w : World) : (typeStr 25).run Tryf.prog w = .ok ((Char.ofNat 42).toString ++ "compose.IncludePath") w := by kernel_rfl

-- the two error types that fmt.errorf makes
@[go_sem] theorem ptr58 (w : World) : (FmtStop.ptrTo "errors.errorString").run Tryf.prog w = .ok 58 w := by kernel_rfl
@[go_sem] theorem elem58 (w : World) : (elemOf 58).run Tryf.prog w = .ok 60 w := by kernel_rfl
@[go_sem] theorem isError58 (w : World) : (FmtDoors.textMethod 58 "Error").run Tryf.prog w = .ok true w := by kernel_rfl
@[go_sem] theorem ptr55 (w : World) : (FmtStop.ptrTo "fmt.wrapError").run Tryf.prog w = .ok 55 w := by kernel_rfl
@[go_sem] theorem elem55 (w : World) : (elemOf 55).run Tryf.prog w = .ok 167 w := by kernel_rfl
@[go_sem] theorem isError55 (w : World) : (FmtDoors.textMethod 55 "Error").run Tryf.prog w = .ok true w := by kernel_rfl
end Go.Proofs.Qxb6613227aFmt
