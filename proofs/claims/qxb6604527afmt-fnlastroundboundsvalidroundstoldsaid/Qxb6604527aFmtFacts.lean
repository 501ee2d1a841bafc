/-
  Closed facts on this program for the walk over fmt's stopped fronts (fmt.errorf): each by the kernel's own reckoning.
-/
import Derived.Test.Qxb6604527aFmtRows
import Derived.Stop.CallBack
import Derived.Stop.IfaceNil
import GoSem.ClaimData
namespace Go.Proofs.Qxb6604527aFmt
open Go.Extern.Stop Go.Stop Go.Extern

theorem call25 (args : Array Value) (w : World) : (callFunc 25 args).run Tryf.prog w = ((FmtStop.errorf #[9, 71] #[43] args).run Tryf.prog w).andThen fun v w' => .ok (.value v) w' :=
  run_callFunc_extern Tryf.func25 (by kernel_rfl) (by kernel_rfl) (by kernel_rfl) (by kernel_rfl) args w
theorem guardOk (name : String) (w : World) : (FmtStop.guard name).run Tryf.prog w = .ok () w := by kernel_rfl
theorem fmtP : FmtStop.printed? ⟨#[37, 115, 32, 109, 101, 115, 115, 97, 103, 101, 32, 111, 102, 32, 114, 111, 117, 110, 100, 32, 37, 100, 59, 32, 112, 114, 111, 99, 101, 115, 115, 101, 115, 32, 115, 101, 110, 100, 32, 105, 110, 32, 114, 111, 117, 110, 100, 115, 32, 49, 32, 116, 111, 32, 37, 100]⟩ 3 = some [(0, 115, false), (1, 100, false), (2, 100, false)] := by kernel_rfl
theorem fmtR (w : World) : (FmtDoors.printed ⟨#[37, 115, 32, 109, 101, 115, 115, 97, 103, 101, 32, 111, 102, 32, 114, 111, 117, 110, 100, 32, 37, 100, 59, 32, 112, 114, 111, 99, 101, 115, 115, 101, 115, 32, 115, 101, 110, 100, 32, 105, 110, 32, 114, 111, 117, 110, 100, 115, 32, 49, 32, 116, 111, 32, 37, 100]⟩ 3).run Tryf.prog w = .ok [(0, 115, false), (1, 100, false), (2, 100, false)] w := by kernel_rfl
def shape9 : List UInt8 := [12, 6, 0, 0, 0, 0, 0, 0, 0, 115, 116, 114, 105, 110, 103]
def shape3 : List UInt8 := [5, 3, 0, 0, 0, 0, 0, 0, 0, 105, 110, 116]
theorem op9_115w (name : String) (x : ByteArray) (w : World) : (FmtStop.operand name true 115 false (.iface 9 (.string x))).run Tryf.prog w = .ok (shape9, FmtStop.pack x.data.toList) w := by kernel_rfl
theorem op3_100w (name : String) (x : Int) (w : World) : (FmtStop.operand name true 100 false (.iface 3 (.int .i64 x))).run Tryf.prog w = .ok (shape3, Go.Extern.Stop.digits 8 (x % 2 ^ 64).toNat) w := by kernel_rfl
theorem op9_115 (name : String) (x : ByteArray) (w : World) : (FmtStop.operand name false 115 false (.iface 9 (.string x))).run Tryf.prog w = .ok (shape9, FmtStop.pack x.data.toList) w := by kernel_rfl
theorem op3_100 (name : String) (x : Int) (w : World) : (FmtStop.operand name false 100 false (.iface 3 (.int .i64 x))).run Tryf.prog w = .ok (shape3, Go.Extern.Stop.digits 8 (x % 2 ^ 64).toNat) w := by kernel_rfl
theorem ptr93 (w : World) : (FmtStop.ptrTo "errors.errorString").run Tryf.prog w = .ok 93 w := by kernel_rfl
theorem elem93 (w : World) : (elemOf 93).run Tryf.prog w = .ok 95 w := by kernel_rfl
theorem isError93 (w : World) : (FmtDoors.textMethod 93 "Error").run Tryf.prog w = .ok true w := by kernel_rfl
end Go.Proofs.Qxb6604527aFmt
