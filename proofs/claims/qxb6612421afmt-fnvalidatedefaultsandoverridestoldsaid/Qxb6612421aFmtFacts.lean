/-
  THE CLOSED FACTS OF SEAT b6612421aF FOR A WALK OVER fmt's STOPPED FRONT, after the guide's Derived/Test/CheckFmt.lean, at this dump's numbers. Each is proved by the kernel's own evaluation.
-/
import Derived.Test.Qxb6612421aFmtRows
import Derived.Stop.CallBack
import Derived.Stop.IfaceNil
import GoSem.ClaimData
namespace Go.Proofs.Qxb6612421aFmt
open Go.Extern.Stop Go.Stop Go.Extern

theorem call16 (args : Array Value) (w : World) : (callFunc 16 args).run Tryf.prog w = ((FmtStop.errorf #[9, 52] #[24] args).run Tryf.prog w).andThen fun v w' => .ok (.value v) w' :=
  run_callFunc_extern Tryf.func16 (by kernel_rfl) (by kernel_rfl) (by kernel_rfl) (by kernel_rfl) args w
theorem guardF (name : String) (w : World) : (FmtStop.guard name).run Tryf.prog w = .ok () w := by kernel_rfl

theorem fmtA : FmtStop.printed? ⟨#[100, 101, 108, 116, 97, 32, 119, 105, 110, 100, 111, 119, 32, 37, 100, 32, 105, 115, 32, 110, 101, 103, 97, 116, 105, 118, 101]⟩ 1 = some [(0, 100, false)] := by kernel_rfl
theorem fmtAr (w : World) : (FmtDoors.printed ⟨#[100, 101, 108, 116, 97, 32, 119, 105, 110, 100, 111, 119, 32, 37, 100, 32, 105, 115, 32, 110, 101, 103, 97, 116, 105, 118, 101]⟩ 1).run Tryf.prog w = .ok [(0, 100, false)] w := by kernel_rfl
theorem fmtA0 : FmtStop.printed? ⟨#[100, 101, 108, 116, 97, 32, 119, 105, 110, 100, 111, 119, 32, 37, 100, 32, 105, 115, 32, 110, 101, 103, 97, 116, 105, 118, 101]⟩ 0 = some [] := by kernel_rfl
theorem fmtA0r (w : World) : (FmtDoors.printed ⟨#[100, 101, 108, 116, 97, 32, 119, 105, 110, 100, 111, 119, 32, 37, 100, 32, 105, 115, 32, 110, 101, 103, 97, 116, 105, 118, 101]⟩ 0).run Tryf.prog w = .ok [] w := by kernel_rfl

theorem fmtB : FmtStop.printed? ⟨#[100, 101, 108, 116, 97, 32, 100, 101, 112, 116, 104, 32, 37, 100, 32, 105, 115, 32, 111, 117, 116, 32, 111, 102, 32, 114, 97, 110, 103, 101, 58, 32, 48, 32, 116, 111, 32, 37, 100]⟩ 2 = some [(0, 100, false), (1, 100, false)] := by kernel_rfl
theorem fmtBr (w : World) : (FmtDoors.printed ⟨#[100, 101, 108, 116, 97, 32, 100, 101, 112, 116, 104, 32, 37, 100, 32, 105, 115, 32, 111, 117, 116, 32, 111, 102, 32, 114, 97, 110, 103, 101, 58, 32, 48, 32, 116, 111, 32, 37, 100]⟩ 2).run Tryf.prog w = .ok [(0, 100, false), (1, 100, false)] w := by kernel_rfl
theorem fmtB0 : FmtStop.printed? ⟨#[100, 101, 108, 116, 97, 32, 100, 101, 112, 116, 104, 32, 37, 100, 32, 105, 115, 32, 111, 117, 116, 32, 111, 102, 32, 114, 97, 110, 103, 101, 58, 32, 48, 32, 116, 111, 32, 37, 100]⟩ 0 = some [] := by kernel_rfl
theorem fmtB0r (w : World) : (FmtDoors.printed ⟨#[100, 101, 108, 116, 97, 32, 100, 101, 112, 116, 104, 32, 37, 100, 32, 105, 115, 32, 111, 117, 116, 32, 111, 102, 32, 114, 97, 110, 103, 101, 58, 32, 48, 32, 116, 111, 32, 37, 100]⟩ 0).run Tryf.prog w = .ok [] w := by kernel_rfl

/-- How an int opens in what fmt is asked. -/
def shape3 : List UInt8 := [5, 3, 0, 0, 0, 0, 0, 0, 0, 105, 110, 116]
theorem op3 (name : String) (x : Int) (w : World) : (FmtStop.operand name false 100 false (.iface 3 (.int .i64 x))).run Tryf.prog w = .ok (shape3, Go.Extern.Stop.digits 8 (x % 2 ^ 64).toNat) w := by kernel_rfl
theorem op3w (name : String) (x : Int) (w : World) : (FmtStop.operand name true 100 false (.iface 3 (.int .i64 x))).run Tryf.prog w = .ok (shape3, Go.Extern.Stop.digits 8 (x % 2 ^ 64).toNat) w := by kernel_rfl
theorem strict3 (name : String) (x : Int) (w : World) : (FmtStop.strict name (.iface 3 (.int .i64 x))).run Tryf.prog w = .ok (shape3, Go.Extern.Stop.digits 8 (x % 2 ^ 64).toNat) w := by kernel_rfl

theorem ptr55 (w : World) : (FmtStop.ptrTo "errors.errorString").run Tryf.prog w = .ok 55 w := by kernel_rfl
theorem elem55 (w : World) : (elemOf 55).run Tryf.prog w = .ok 57 w := by kernel_rfl
theorem isError55 (w : World) : (FmtDoors.textMethod 55 "Error").run Tryf.prog w = .ok true w := by kernel_rfl
theorem ptr53 (w : World) : (FmtStop.ptrTo "fmt.wrapError").run Tryf.prog w = .ok 53 w := by kernel_rfl
theorem elem53 (w : World) : (elemOf 53).run Tryf.prog w = .ok 103 w := by kernel_rfl
theorem isError53 (w : World) : (FmtDoors.textMethod 53 "Error").run Tryf.prog w = .ok true w := by kernel_rfl
end Go.Proofs.Qxb6612421aFmt
