/-
  DERIVED. THE CLOSED FACTS FOR A WALK OVER THE STOPPED fmt.errorf (function 22 of this dump) AT THE ONE CALL THAT THE LAWS COME TO: fmt.Errorf("broker %q is not in the program", broker). Turned by hand after the guide's worked CheckFmt.lean. Each is proved by the kernel.
-/
import Derived.Test.YbulkdlfyFmtCards
import Derived.Stop.CallBack
import Derived.Stop.IfaceNil
import GoSem.ClaimData
namespace Go.Proofs.YbulkdlfyFmt
open Go.Extern.Stop Go.Stop Go.Extern

theorem call22 (args : Array Value) (w : World) : (callFunc 22 args).run Ybaf.prog w = ((FmtStop.errorf #[9, 78] #[42] args).run Ybaf.prog w).andThen fun v w' => .ok (.value v) w' :=
  run_callFunc_extern Ybaf.func22 (by kernel_rfl) (by kernel_rfl) (by kernel_rfl) (by kernel_rfl) args w
theorem guardAll (name : String) (w : World) : (FmtStop.guard name).run Ybaf.prog w = .ok () w := by kernel_rfl
theorem fmt0 : FmtStop.printed? ⟨#[98, 114, 111, 107, 101, 114, 32, 37, 113, 32, 105, 115, 32, 110, 111, 116, 32, 105, 110, 32, 116, 104, 101, 32, 112, 114, 111, 103, 114, 97, 109]⟩ 1 = some [(0, 113, false)] := by kernel_rfl
theorem fmt0r (w : World) : (FmtDoors.printed ⟨#[98, 114, 111, 107, 101, 114, 32, 37, 113, 32, 105, 115, 32, 110, 111, 116, 32, 105, 110, 32, 116, 104, 101, 32, 112, 114, 111, 103, 114, 97, 109]⟩ 1).run Ybaf.prog w = .ok [(0, 113, false)] w := by kernel_rfl
def shape9 : List UInt8 := [12, 6, 0, 0, 0, 0, 0, 0, 0, 115, 116, 114, 105, 110, 103]
theorem op9_113 (name : String) (x : ByteArray) (w : World) : (FmtStop.operand name false 113 false (.iface 9 (.string x))).run Ybaf.prog w = .ok (shape9, FmtStop.pack x.data.toList) w := by kernel_rfl
theorem op9_113w (name : String) (x : ByteArray) (w : World) : (FmtStop.operand name true 113 false (.iface 9 (.string x))).run Ybaf.prog w = .ok (shape9, FmtStop.pack x.data.toList) w := by kernel_rfl
theorem ptr80 (w : World) : (FmtStop.ptrTo "errors.errorString").run Ybaf.prog w = .ok 80 w := by kernel_rfl
theorem elem80 (w : World) : (elemOf 80).run Ybaf.prog w = .ok 82 w := by kernel_rfl
theorem isError80 (w : World) : (FmtDoors.textMethod 80 "Error").run Ybaf.prog w = .ok true w := by kernel_rfl

end Go.Proofs.YbulkdlfyFmt
