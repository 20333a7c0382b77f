import Derived.Test.YbulkckhyFmtProg
import Derived.Stop.CallBack
import Derived.Stop.IfaceNil
import GoSem.ClaimData
namespace Go.Proofs.YbulkckhyFmt
open Go.Extern.Stop Go.Stop Go.Extern

/-! THE CLOSED FACTS FOR A WALK OVER fmt.Sprintf (function 12: a stop that calls its operands' methods), at the three formats of this road. -/
theorem call12 (args : Array Value) (w : World) : (callFunc 12 args).run Ybaf.prog w = (FmtCalls.sprintf #[9, 40] #[9] args).run Ybaf.prog w :=
  run_callFunc_next Ybaf.func12 (by kernel_rfl) (by kernel_rfl) (by kernel_rfl) args w
theorem guardF (name : String) (w : World) : (FmtStop.guard name).run Ybaf.prog w = .ok () w := by kernel_rfl
theorem nextTurns : Extern.next FmtCalls.turnsRow = some (FmtCalls.begun #[] #[]) := by kernel_rfl
theorem nextReturned : Extern.next FmtCalls.returnedRow = some (FmtCalls.returned #[] #[]) := by kernel_rfl
-- "missing"
theorem fmtM : FmtStop.printed? ⟨#[109, 105, 115, 115, 105, 110, 103]⟩ 0 = some [] := by kernel_rfl
theorem fmtMr (w : World) : (FmtDoors.printed ⟨#[109, 105, 115, 115, 105, 110, 103]⟩ 0).run Ybaf.prog w = .ok [] w := by kernel_rfl
-- "must not be empty"
theorem fmtE : FmtStop.printed? ⟨#[109, 117, 115, 116, 32, 110, 111, 116, 32, 98, 101, 32, 101, 109, 112, 116, 121]⟩ 0 = some [] := by kernel_rfl
theorem fmtEr (w : World) : (FmtDoors.printed ⟨#[109, 117, 115, 116, 32, 110, 111, 116, 32, 98, 101, 32, 101, 109, 112, 116, 121]⟩ 0).run Ybaf.prog w = .ok [] w := by kernel_rfl
-- "must be a string, not %s"
theorem fmtS : FmtStop.printed? ⟨#[109, 117, 115, 116, 32, 98, 101, 32, 97, 32, 115, 116, 114, 105, 110, 103, 44, 32, 110, 111, 116, 32, 37, 115]⟩ 1 = some [(0, 115, false)] := by kernel_rfl
theorem fmtSr (w : World) : (FmtDoors.printed ⟨#[109, 117, 115, 116, 32, 98, 101, 32, 97, 32, 115, 116, 114, 105, 110, 103, 44, 32, 110, 111, 116, 32, 37, 115]⟩ 1).run Ybaf.prog w = .ok [(0, 115, false)] w := by kernel_rfl
-- a string under %s
def shape9 : List UInt8 := [12, 6, 0, 0, 0, 0, 0, 0, 0, 115, 116, 114, 105, 110, 103]
theorem act9 (name : String) (x : Value) (w : World) : (FmtCalls.act name false 115 false (.iface 9 x)).run Ybaf.prog w = .ok (.closed false) w := by kernel_rfl
theorem op9 (name : String) (x : ByteArray) (w : World) : (FmtStop.operand name false 115 false (.iface 9 (.string x))).run Ybaf.prog w = .ok (shape9, FmtStop.pack x.data.toList) w := by kernel_rfl
theorem str9 (w : World) : (typeStr 9).run Ybaf.prog w = .ok "string" w := by kernel_rfl
end Go.Proofs.YbulkckhyFmt
