/- The closed facts for a walk over fmt.Errorf's stop, at this dump's numbers (after the guide's CheckFmt.lean). -/
import Derived.Test.Qxb6626507aFmtBase
import Derived.Stop.CallBack
import Derived.Stop.IfaceNil
import GoSem.ClaimData
namespace Go.Proofs.Qxb6626507aFmt
open Go.RowKit Go.Extern.Stop Go.Stop Go.Extern

theorem call17 (args : Array Value) (w : World) : (callFunc 17 args).run Tryf.prog w = ((FmtStop.errorf #[9, 46] #[32] args).run Tryf.prog w).andThen fun v w' => .ok (.value v) w' :=
  run_callFunc_extern Tryf.func17 (by kernel_rfl) (by kernel_rfl) (by kernel_rfl) (by kernel_rfl) args w
theorem guard17 (name : String) (w : World) : (FmtStop.guard name).run Tryf.prog w = .ok () w := by kernel_rfl
/-- '%s %s %q: the node has no such %s' -/
def F0 : ByteArray := ⟨#[37, 115, 32, 37, 115, 32, 37, 113, 58, 32, 116, 104, 101, 32, 110, 111, 100, 101, 32, 104, 97, 115, 32, 110, 111, 32, 115, 117, 99, 104, 32, 37, 115]⟩
/-- '%s %s %q is listed twice' -/
def F1 : ByteArray := ⟨#[37, 115, 32, 37, 115, 32, 37, 113, 32, 105, 115, 32, 108, 105, 115, 116, 101, 100, 32, 116, 119, 105, 99, 101]⟩
theorem fmt0 : FmtStop.printed? F0 4 = some [(0, 115, false), (1, 115, false), (2, 113, false), (3, 115, false)] := by kernel_rfl
theorem fmt0r (w : World) : (FmtDoors.printed F0 4).run Tryf.prog w = .ok [(0, 115, false), (1, 115, false), (2, 113, false), (3, 115, false)] w := by kernel_rfl
theorem fmt0n : FmtStop.printed? F0 0 = some [] := by kernel_rfl
theorem fmt1 : FmtStop.printed? F1 3 = some [(0, 115, false), (1, 115, false), (2, 113, false)] := by kernel_rfl
theorem fmt1r (w : World) : (FmtDoors.printed F1 3).run Tryf.prog w = .ok [(0, 115, false), (1, 115, false), (2, 113, false)] w := by kernel_rfl
theorem fmt1n : FmtStop.printed? F1 0 = some [] := by kernel_rfl
def shape9 : List UInt8 := [12, 6, 0, 0, 0, 0, 0, 0, 0, 115, 116, 114, 105, 110, 103]
theorem op9_115 (name : String) (b : Bool) (x : ByteArray) (w : World) : (FmtStop.operand name b 115 false (.iface 9 (.string x))).run Tryf.prog w = .ok (shape9, FmtStop.pack x.data.toList) w := by cases b <;> kernel_rfl
theorem op9_113 (name : String) (b : Bool) (x : ByteArray) (w : World) : (FmtStop.operand name b 113 false (.iface 9 (.string x))).run Tryf.prog w = .ok (shape9, FmtStop.pack x.data.toList) w := by cases b <;> kernel_rfl
theorem ptr52 (w : World) : (FmtStop.ptrTo "errors.errorString").run Tryf.prog w = .ok 52 w := by kernel_rfl
theorem elem52 (w : World) : (elemOf 52).run Tryf.prog w = .ok 54 w := by kernel_rfl
end Go.Proofs.Qxb6626507aFmt
