import Derived.Test.YbulkhboFmtRows
import Derived.Stop.CallBack
import Derived.Stop.IfaceNil
import GoSem.ClaimData
import Derived.KernelRfl
namespace Go.Proofs.YbulkhboFmt
open Go.Extern.Stop Go.Stop Go.Extern

/-! THE CLOSED FACTS that a walk over fmt's stop wants, at this dump's numbers; each by the kernel. -/
theorem call8 (args : Array Value) (w : World) : (callFunc 8 args).run Ybaf.prog w = ((FmtStop.errorf #[9, 49] #[32] args).run Ybaf.prog w).andThen fun v w' => .ok (.value v) w' :=
  run_callFunc_extern Ybaf.func8 (by kernel_rfl) (by kernel_rfl) (by kernel_rfl) (by kernel_rfl) args w
theorem guardE (name : String) (w : World) : (FmtStop.guard name).run Ybaf.prog w = .ok () w := by kernel_rfl
theorem fmt0 : FmtStop.printed? ⟨#[102, 117, 110, 100, 32, 37, 113, 32, 105, 115, 32, 110, 111, 116, 32, 111, 110, 101, 32, 111, 102, 32, 116, 104, 101, 32, 102, 117, 110, 100, 115, 32, 118, 97, 108, 117, 101, 100]⟩ 1 = some [(0, 113, false)] := by kernel_rfl
theorem fmt0r (w : World) : (FmtDoors.printed ⟨#[102, 117, 110, 100, 32, 37, 113, 32, 105, 115, 32, 110, 111, 116, 32, 111, 110, 101, 32, 111, 102, 32, 116, 104, 101, 32, 102, 117, 110, 100, 115, 32, 118, 97, 108, 117, 101, 100]⟩ 1).run Ybaf.prog w = .ok [(0, 113, false)] w := by kernel_rfl
theorem fmt1 : FmtStop.printed? ⟨#[102, 117, 110, 100, 32, 37, 115, 32, 104, 97, 115, 32, 110, 111, 32, 99, 108, 97, 115, 115, 32, 37, 113]⟩ 2 = some [(0, 115, false), (1, 113, false)] := by kernel_rfl
theorem fmt1r (w : World) : (FmtDoors.printed ⟨#[102, 117, 110, 100, 32, 37, 115, 32, 104, 97, 115, 32, 110, 111, 32, 99, 108, 97, 115, 115, 32, 37, 113]⟩ 2).run Ybaf.prog w = .ok [(0, 115, false), (1, 113, false)] w := by kernel_rfl
def shape9 : List UInt8 := [12, 6, 0, 0, 0, 0, 0, 0, 0, 115, 116, 114, 105, 110, 103]
theorem op9_115 (name : String) (x : ByteArray) (w : World) : (FmtStop.operand name false 115 false (.iface 9 (.string x))).run Ybaf.prog w = .ok (shape9, FmtStop.pack x.data.toList) w := by kernel_rfl
theorem op9_113 (name : String) (x : ByteArray) (w : World) : (FmtStop.operand name false 113 false (.iface 9 (.string x))).run Ybaf.prog w = .ok (shape9, FmtStop.pack x.data.toList) w := by kernel_rfl
theorem op9_115w (name : String) (x : ByteArray) (w : World) : (FmtStop.operand name true 115 false (.iface 9 (.string x))).run Ybaf.prog w = .ok (shape9, FmtStop.pack x.data.toList) w := by kernel_rfl
theorem op9_113w (name : String) (x : ByteArray) (w : World) : (FmtStop.operand name true 113 false (.iface 9 (.string x))).run Ybaf.prog w = .ok (shape9, FmtStop.pack x.data.toList) w := by kernel_rfl
theorem strict9 (name : String) (x : ByteArray) (w : World) : (FmtStop.strict name (.iface 9 (.string x))).run Ybaf.prog w = .ok (shape9, FmtStop.pack x.data.toList) w := by kernel_rfl
theorem ptr53 (w : World) : (FmtStop.ptrTo "errors.errorString").run Ybaf.prog w = .ok 53 w := by kernel_rfl
theorem elem53 (w : World) : (elemOf 53).run Ybaf.prog w = .ok 55 w := by kernel_rfl
theorem isError53 (w : World) : (FmtDoors.textMethod 53 "Error").run Ybaf.prog w = .ok true w := by kernel_rfl
end Go.Proofs.YbulkhboFmt
