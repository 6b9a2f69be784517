/-
  THE CLOSED FACTS FOR A WALK OVER fmt.errorf (a plain stop) AND errors.Unwrap, after the make of the guide's GuardFmt.lean and SentryIs.lean, at this program. Each is proved by the kernel's own evaluation.
-/
import Derived.Test.Qxb6613521aFmtProg
import Derived.Stop.CallBack
import Derived.Stop.IfaceNil
import Derived.Stop.Asserts
import GoSem.ClaimData
import Derived.KernelRfl
namespace Go.Proofs.Qxb6613521aFmt
open Go.Extern.Stop Go.Stop Go.Extern

-- fmt.errorf: function 25: a plain stop
@[go_sem] theorem call25 (args : Array Value) (w : World) : (callFunc 25 args).run Tryf.prog w = ((FmtStop.errorf #[9, 53] #[33] args).run Tryf.prog w).andThen fun v w' => .ok (.value v) w' :=
  run_callFunc_extern Tryf.func25 (by kernel_rfl) (by kernel_rfl) (by kernel_rfl) (by kernel_rfl) args w
@[go_sem] theorem guardOk (name : String) (w : World) : (FmtStop.guard name).run Tryf.prog w = .ok () w := by kernel_rfl

-- the one format of the road: a string under verb s, an error under verb w
@[go_sem] theorem fmt0 : FmtStop.printed? ⟨#[115, 101, 113, 117, 101, 110, 99, 101, 114, 32, 37, 115, 58, 32, 37, 119]⟩ 2 = some [(0, 115, false), (1, 119, false)] := by kernel_rfl
@[go_sem] theorem fmt0r (w : World) : (FmtDoors.printed ⟨#[115, 101, 113, 117, 101, 110, 99, 101, 114, 32, 37, 115, 58, 32, 37, 119]⟩ 2).run Tryf.prog w = .ok [(0, 115, false), (1, 119, false)] w := by kernel_rfl

-- type 9: string
def shape9 : List UInt8 := [12, 6, 0, 0, 0, 0, 0, 0, 0, 115, 116, 114, 105, 110, 103]
@[go_sem] theorem op9_115 (name : String) (x : ByteArray) (w : World) : (FmtStop.operand name false 115 false (.iface 9 (.string x))).run Tryf.prog w = .ok (shape9, FmtStop.pack x.data.toList) w := by kernel_rfl
@[go_sem] theorem op9_115w (name : String) (x : ByteArray) (w : World) : (FmtStop.operand name true 115 false (.iface 9 (.string x))).run Tryf.prog w = .ok (shape9, FmtStop.pack x.data.toList) w := by kernel_rfl

-- the two error types that fmt.errorf makes
@[go_sem] theorem ptr56 (w : World) : (FmtStop.ptrTo "errors.errorString").run Tryf.prog w = .ok 56 w := by kernel_rfl
@[go_sem] theorem elem56 (w : World) : (elemOf 56).run Tryf.prog w = .ok 58 w := by kernel_rfl
@[go_sem] theorem isError56 (w : World) : (FmtDoors.textMethod 56 "Error").run Tryf.prog w = .ok true w := by kernel_rfl
def name56 : String := (Char.ofNat 42).toString ++ "errors.errorString"
def plain56 : List UInt8 := 14 :: FmtStop.pack name56.toUTF8.data.toList
theorem opPlain56_119w (name : String) (a : Addr) (s : ByteArray) (w : World) (hc : w.cell? a = some (.string s)) :
    (FmtStop.operand name true 119 false (.iface 56 (.pointer (some a)))).run Tryf.prog w = .ok (plain56, s.data.toList) w := by
  have h1 : (typeStr 56).run Tryf.prog w = .ok name56 w := by kernel_rfl
  have d2 : Tryf.t56.desc = .pointer 58 := rfl
  have d3 : Tryf.t58.desc = .named "errors.errorString" 57 := rfl
  simp [FmtStop.operand, h1, d2, d3, run_load, hc, plain56]
@[go_sem] theorem ptr54 (w : World) : (FmtStop.ptrTo "fmt.wrapError").run Tryf.prog w = .ok 54 w := by kernel_rfl
@[go_sem] theorem elem54 (w : World) : (elemOf 54).run Tryf.prog w = .ok 82 w := by kernel_rfl
@[go_sem] theorem isError54 (w : World) : (FmtDoors.textMethod 54 "Error").run Tryf.prog w = .ok true w := by kernel_rfl

-- what errors.Unwrap's assertion finds
theorem hasUnwrap (v : Value) (xT : TypeId) (w : World) : (Instr.typeAssert (.iface 54 v) xT 59 true).run Tryf.prog w = .ok (.tuple #[.iface 54 v, .bool true]) w := run_typeAssert_hasB Tryf.underlying59 (by kernel_rfl) v xT w
theorem methodUnwrap (v : Value) (w : World) : (Go.method 188 54 v "Unwrap").run Tryf.prog w = .ok (53, v) w := by kernel_rfl
theorem comp56 : (Tryf.prog.info? 56).map (·.comparable) = some true := by kernel_rfl
theorem size58 : (Tryf.prog.info? 58).map (·.size) = some 1 := by kernel_rfl
end Go.Proofs.Qxb6613521aFmt
