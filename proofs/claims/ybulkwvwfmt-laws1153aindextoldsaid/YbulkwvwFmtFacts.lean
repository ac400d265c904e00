import Derived.Test.YbulkwvwFmtRows
import Derived.Stop.CallBack
import Derived.Stop.IfaceNil
import GoSem.ClaimData
import Derived.KernelRfl
namespace Go.Proofs.YbulkwvwFmt
open Go.Extern.Stop Go.Stop Go.Extern

/-- fmt.Sprintf: function 9: a stop that calls its operands' methods; here both operands are strings: no method is called. -/
@[go_sem] theorem call9 (args : Array Value) (w : World) : (callFunc 9 args).run Ybaf.prog w = (FmtCalls.sprintf #[9, 56] #[9] args).run Ybaf.prog w :=
  run_callFunc_next Ybaf.func9 (by kernel_rfl) (by kernel_rfl) (by kernel_rfl) args w
@[go_sem] theorem fguard (name : String) (w : World) : (FmtStop.guard name).run Ybaf.prog w = .ok () w := by kernel_rfl
theorem nextTurns : Extern.next FmtCalls.turnsRow = some (FmtCalls.begun #[] #[]) := by kernel_rfl
def fmtA : ByteArray := ⟨#[37, 115, 32, 104, 97, 115, 32, 110, 111, 32, 97, 114, 103, 117, 109, 101, 110, 116, 32, 110, 97, 109, 101, 100, 32, 37, 115]⟩
def fmtB : ByteArray := ⟨#[97, 114, 103, 117, 109, 101, 110, 116, 32, 37, 115, 32, 111, 102, 32, 37, 115, 32, 105, 115, 32, 110, 111, 116, 32, 97, 32, 98, 117, 102, 102, 101, 114]⟩
@[go_sem] theorem fmt0 : FmtStop.printed? ⟨#[37, 115, 32, 104, 97, 115, 32, 110, 111, 32, 97, 114, 103, 117, 109, 101, 110, 116, 32, 110, 97, 109, 101, 100, 32, 37, 115]⟩ 2 = some [(0, 115, false), (1, 115, false)] := by kernel_rfl
@[go_sem] theorem fmt1 : FmtStop.printed? ⟨#[97, 114, 103, 117, 109, 101, 110, 116, 32, 37, 115, 32, 111, 102, 32, 37, 115, 32, 105, 115, 32, 110, 111, 116, 32, 97, 32, 98, 117, 102, 102, 101, 114]⟩ 2 = some [(0, 115, false), (1, 115, false)] := by kernel_rfl
def shape9 : List UInt8 := [12, 6, 0, 0, 0, 0, 0, 0, 0, 115, 116, 114, 105, 110, 103]
@[go_sem] theorem act9_115 (name : String) (x : Value) (w : World) : (FmtCalls.act name false 115 false (.iface 9 x)).run Ybaf.prog w = .ok (.closed false) w := by kernel_rfl
@[go_sem] theorem op9_115 (name : String) (x : ByteArray) (w : World) : (FmtStop.operand name false 115 false (.iface 9 (.string x))).run Ybaf.prog w = .ok (shape9, FmtStop.pack x.data.toList) w := by kernel_rfl
end Go.Proofs.YbulkwvwFmt
