/-
  THE CLOSED FACTS FOR A WALK OVER fmt's STOPPED FRONT 'fmt.errorf', at this dump's numbers (typed by hand after the guide's worked HexbadFmt, LevelsFmt). Each is checked by the kernel.
-/
import Derived.Test.YbulkivwFmtProg
import Derived.Stop.CallBack
import Derived.Stop.IfaceNil
import GoSem.ClaimData
namespace Go.Proofs.YbulkivwFmt
open Go.Extern.Stop Go.Stop Go.Extern

/-- fmt.errorf: function 7: a stop that calls its operands' methods. -/
theorem call7 (args : Array Value) (w : World) : (callFunc 7 args).run Ybaf.prog w = (FmtCalls.errorf #[9, 30] #[24] args).run Ybaf.prog w :=
  run_callFunc_next Ybaf.func7 (by kernel_rfl) (by kernel_rfl) (by kernel_rfl) args w
theorem guardOk (name : String) (w : World) : (FmtStop.guard name).run Ybaf.prog w = .ok () w := by kernel_rfl
theorem nextTurns : Extern.next FmtCalls.turnsRow = some (FmtCalls.begun #[] #[]) := by kernel_rfl
theorem nextReturned : Extern.next FmtCalls.returnedRow = some (FmtCalls.returned #[] #[]) := by kernel_rfl

/-- The format: transaction timeout %v is not between 1ms and %v -/
theorem fmtA : FmtStop.printed? ⟨#[116, 114, 97, 110, 115, 97, 99, 116, 105, 111, 110, 32, 116, 105, 109, 101, 111, 117, 116, 32, 37, 118, 32, 105, 115, 32, 110, 111, 116, 32, 98, 101, 116, 119, 101, 101, 110, 32, 49, 109, 115, 32, 97, 110, 100, 32, 37, 118]⟩ 2 = some [(0, 118, false), (1, 118, false)] := by kernel_rfl
theorem fmtAr (w : World) : (FmtDoors.printed ⟨#[116, 114, 97, 110, 115, 97, 99, 116, 105, 111, 110, 32, 116, 105, 109, 101, 111, 117, 116, 32, 37, 118, 32, 105, 115, 32, 110, 111, 116, 32, 98, 101, 116, 119, 101, 101, 110, 32, 49, 109, 115, 32, 97, 110, 100, 32, 37, 118]⟩ 2).run Ybaf.prog w = .ok [(0, 118, false), (1, 118, false)] w := by kernel_rfl

/-- type 22: time.Duration -/
theorem act22_118 (name : String) (x : Value) (w : World) : (FmtCalls.act name false 118 false (.iface 22 x)).run Ybaf.prog w = .ok (.call false) w := by kernel_rfl
theorem act22_118w (name : String) (x : Value) (w : World) : (FmtCalls.act name true 118 false (.iface 22 x)).run Ybaf.prog w = .ok (.call false) w := by kernel_rfl
theorem isString22 (w : World) : (FmtDoors.textMethod 22 "String").run Ybaf.prog w = .ok true w := by kernel_rfl
theorem invokeString22 (x : Value) (w : World) : (invoke (.fn (.method "String") #[]) #[.iface 22 x]).run Ybaf.prog w = .ok (.enter 9 #[x]) w := by kernel_rfl
theorem str22 (w : World) : (typeStr 22).run Ybaf.prog w = .ok "time.Duration" w := by kernel_rfl

/-- the two error types that fmt.errorf makes -/
theorem ptr33 (w : World) : (FmtStop.ptrTo "errors.errorString").run Ybaf.prog w = .ok 33 w := by kernel_rfl
theorem elem33 (w : World) : (elemOf 33).run Ybaf.prog w = .ok 35 w := by kernel_rfl
theorem isError33 (w : World) : (FmtDoors.textMethod 33 "Error").run Ybaf.prog w = .ok true w := by kernel_rfl
theorem ptr32 (w : World) : (FmtStop.ptrTo "fmt.wrapError").run Ybaf.prog w = .ok 32 w := by kernel_rfl
theorem elem32 (w : World) : (elemOf 32).run Ybaf.prog w = .ok 62 w := by kernel_rfl
theorem isError32 (w : World) : (FmtDoors.textMethod 32 "Error").run Ybaf.prog w = .ok true w := by kernel_rfl

end Go.Proofs.YbulkivwFmt
