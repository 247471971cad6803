/-
  Closed facts of this program for a walk over fmt's stopped functions: what each literal format walks to, what an operand of type string reads as, which error type fmt.errorf makes. Each by the kernel's own evaluation; turned from the worked family Check to this program's numbers.
-/
import Derived.Test.Qxb6605920aFmtCards
import Derived.Stop.CallBack
import Derived.Stop.IfaceNil
import Derived.WalkKit
import Derived.WalkSpells
namespace Go.Proofs.Qxb6605920aFmt
open Go.Extern.Stop Go.Stop Go.Extern

theorem call25 (args : Array Value) (w : World) : (callFunc 25 args).run Tryf.prog w = ((FmtStop.errorf #[9, 64] #[38] args).run Tryf.prog w).andThen fun v w' => .ok (.value v) w' :=
  run_callFunc_extern Tryf.func25 (by kernel_rfl) (by kernel_rfl) (by kernel_rfl) (by kernel_rfl) args w
theorem call28 (args : Array Value) (w : World) : (callFunc 28 args).run Tryf.prog w = (FmtCalls.sprintf #[9, 64] #[9] args).run Tryf.prog w :=
  run_callFunc_next Tryf.func28 (by kernel_rfl) (by kernel_rfl) (by kernel_rfl) args w
theorem guard (name : String) (w : World) : (FmtStop.guard name).run Tryf.prog w = .ok () w := by kernel_rfl
theorem nextTurns : Extern.next FmtCalls.turnsRow = some (FmtCalls.begun #[] #[]) := by kernel_rfl

theorem fmtA : FmtStop.printed? ⟨#[97, 100, 109, 105, 110, 95, 116, 111, 107, 101, 110, 95, 101, 110, 118, 58, 32, 101, 110, 118, 105, 114, 111, 110, 109, 101, 110, 116, 32, 118, 97, 114, 105, 97, 98, 108, 101, 32, 37, 115, 32, 105, 115, 32, 110, 111, 116, 32, 115, 101, 116]⟩ 1 = some [(0, 115, false)] := by kernel_rfl
theorem fmtAr (w : World) : (FmtDoors.printed ⟨#[97, 100, 109, 105, 110, 95, 116, 111, 107, 101, 110, 95, 101, 110, 118, 58, 32, 101, 110, 118, 105, 114, 111, 110, 109, 101, 110, 116, 32, 118, 97, 114, 105, 97, 98, 108, 101, 32, 37, 115, 32, 105, 115, 32, 110, 111, 116, 32, 115, 101, 116]⟩ 1).run Tryf.prog w = .ok [(0, 115, false)] w := by kernel_rfl
theorem fmtB : FmtStop.printed? ⟨#[97, 108, 101, 114, 116, 115, 46, 116, 111, 107, 101, 110, 95, 101, 110, 118, 58, 32, 101, 110, 118, 105, 114, 111, 110, 109, 101, 110, 116, 32, 118, 97, 114, 105, 97, 98, 108, 101, 32, 37, 115, 32, 105, 115, 32, 110, 111, 116, 32, 115, 101, 116]⟩ 1 = some [(0, 115, false)] := by kernel_rfl
theorem fmtBr (w : World) : (FmtDoors.printed ⟨#[97, 108, 101, 114, 116, 115, 46, 116, 111, 107, 101, 110, 95, 101, 110, 118, 58, 32, 101, 110, 118, 105, 114, 111, 110, 109, 101, 110, 116, 32, 118, 97, 114, 105, 97, 98, 108, 101, 32, 37, 115, 32, 105, 115, 32, 110, 111, 116, 32, 115, 101, 116]⟩ 1).run Tryf.prog w = .ok [(0, 115, false)] w := by kernel_rfl
theorem fmtC : FmtStop.printed? ⟨#[37, 115, 58, 32, 37, 115]⟩ 2 = some [(0, 115, false), (1, 115, false)] := by kernel_rfl
theorem fmtCr (w : World) : (FmtDoors.printed ⟨#[37, 115, 58, 32, 37, 115]⟩ 2).run Tryf.prog w = .ok [(0, 115, false), (1, 115, false)] w := by kernel_rfl
theorem fmtD : FmtStop.printed? ⟨#[105, 115, 32, 114, 101, 113, 117, 105, 114, 101, 100]⟩ 0 = some [] := by kernel_rfl
theorem fmtDr (w : World) : (FmtDoors.printed ⟨#[105, 115, 32, 114, 101, 113, 117, 105, 114, 101, 100]⟩ 0).run Tryf.prog w = .ok [] w := by kernel_rfl

def shape9 : List UInt8 := [12, 6, 0, 0, 0, 0, 0, 0, 0, 115, 116, 114, 105, 110, 103]
theorem op9_115w (name : String) (x : ByteArray) (w : World) : (FmtStop.operand name true 115 false (.iface 9 (.string x))).run Tryf.prog w = .ok (shape9, FmtStop.pack x.data.toList) w := by kernel_rfl
theorem strict9 (name : String) (x : ByteArray) (w : World) : (FmtStop.strict name (.iface 9 (.string x))).run Tryf.prog w = .ok (shape9, FmtStop.pack x.data.toList) w := by kernel_rfl

theorem ptr69 (w : World) : (FmtStop.ptrTo "errors.errorString").run Tryf.prog w = .ok 69 w := by kernel_rfl
theorem elem69 (w : World) : (elemOf 69).run Tryf.prog w = .ok 71 w := by kernel_rfl
theorem isError69 (w : World) : (FmtDoors.textMethod 69 "Error").run Tryf.prog w = .ok true w := by kernel_rfl

end Go.Proofs.Qxb6605920aFmt
