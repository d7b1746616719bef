/-
  Seat b6616891aF: the closed facts that a walk over fmt.errorf (function 12) wants, each by the kernel (the make of the guide's NameFmt texts, typed by hand for this dump: three operands: two strings, an int).
-/
import Derived.Test.Qxb6616891aFmtProg
import Derived.Stop.CallBack
import Derived.Stop.IfaceNil
import GoSem.ClaimData
namespace Go.Proofs.Qxb6616891aFmt
open Go.Extern.Stop Go.Stop Go.Extern

theorem Tryf.call12 (args : Array Value) (w : World) : (callFunc 12 args).run Tryf.prog w = ((FmtStop.errorf #[9, 35] #[25] args).run Tryf.prog w).andThen fun v w' => .ok (.value v) w' :=
  run_callFunc_extern Tryf.func12 (by kernel_rfl) (by kernel_rfl) (by kernel_rfl) (by kernel_rfl) args w

theorem Tryf.guard (name : String) (w : World) : (FmtStop.guard name).run Tryf.prog w = .ok () w := by kernel_rfl

theorem Tryf.fmt0 : FmtStop.printed? ⟨#[37, 115, 32, 116, 97, 107, 101, 115, 32, 37, 115, 32, 98, 121, 116, 101, 115, 44, 32, 103, 111, 116, 32, 37, 100]⟩ 3 = some [(0, 115, false), (1, 115, false), (2, 100, false)] := by kernel_rfl
theorem Tryf.fmt0r (w : World) : (FmtDoors.printed ⟨#[37, 115, 32, 116, 97, 107, 101, 115, 32, 37, 115, 32, 98, 121, 116, 101, 115, 44, 32, 103, 111, 116, 32, 37, 100]⟩ 3).run Tryf.prog w = .ok [(0, 115, false), (1, 115, false), (2, 100, false)] w := by kernel_rfl

def Tryf.shape9 : List UInt8 := [12, 6, 0, 0, 0, 0, 0, 0, 0, 115, 116, 114, 105, 110, 103]
theorem Tryf.op9_115 (name : String) (x : ByteArray) (w : World) : (FmtStop.operand name false 115 false (.iface 9 (.string x))).run Tryf.prog w = .ok (Tryf.shape9, FmtStop.pack x.data.toList) w := by kernel_rfl
theorem Tryf.op9_115w (name : String) (x : ByteArray) (w : World) : (FmtStop.operand name true 115 false (.iface 9 (.string x))).run Tryf.prog w = .ok (Tryf.shape9, FmtStop.pack x.data.toList) w := by kernel_rfl
def Tryf.shape3 : List UInt8 := [5, 3, 0, 0, 0, 0, 0, 0, 0, 105, 110, 116]
theorem Tryf.op3_100 (name : String) (x : Int) (w : World) : (FmtStop.operand name false 100 false (.iface 3 (.int .i64 x))).run Tryf.prog w = .ok (Tryf.shape3, Go.Extern.Stop.digits 8 (x % 2 ^ 64).toNat) w := by kernel_rfl
theorem Tryf.op3_100w (name : String) (x : Int) (w : World) : (FmtStop.operand name true 100 false (.iface 3 (.int .i64 x))).run Tryf.prog w = .ok (Tryf.shape3, Go.Extern.Stop.digits 8 (x % 2 ^ 64).toNat) w := by kernel_rfl

theorem Tryf.ptr38 (w : World) : (FmtStop.ptrTo "errors.errorString").run Tryf.prog w = .ok 38 w := by kernel_rfl
theorem Tryf.elem38 (w : World) : (elemOf 38).run Tryf.prog w = .ok 40 w := by kernel_rfl
theorem Tryf.isError38 (w : World) : (FmtDoors.textMethod 38 "Error").run Tryf.prog w = .ok true w := by kernel_rfl

end Go.Proofs.Qxb6616891aFmt
