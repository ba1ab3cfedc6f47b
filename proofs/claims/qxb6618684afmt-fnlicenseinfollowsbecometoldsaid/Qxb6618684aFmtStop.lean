import Derived.Test.Qxb6618684aFmtRows
import Derived.Stop.CallBack
import Derived.Stop.IfaceNil
import GoSem.ClaimData
namespace Go.Proofs
open Go.Extern.Stop Go.Stop Go.Extern

theorem Tryf.call27 (args : Array Value) (w : World) : (callFunc 27 args).run Tryf.prog w = ((FmtStop.errorf #[9, 74] #[37] args).run Tryf.prog w).andThen fun v w' => .ok (.value v) w' :=
  run_callFunc_extern Tryf.func27 (by kernel_rfl) (by kernel_rfl) (by kernel_rfl) (by kernel_rfl) args w

theorem Tryf.guard (name : String) (w : World) : (FmtStop.guard name).run Tryf.prog w = .ok () w := by kernel_rfl

theorem Tryf.fmt0 : FmtStop.printed? ⟨#[110, 111, 32, 108, 105, 99, 101, 110, 99, 101, 32, 37, 115, 32, 105, 115, 32, 114, 101, 99, 111, 114, 100, 101, 100]⟩ 1 = some [(0, 115, false)] := by kernel_rfl
theorem Tryf.fmt0r (w : World) : (FmtDoors.printed ⟨#[110, 111, 32, 108, 105, 99, 101, 110, 99, 101, 32, 37, 115, 32, 105, 115, 32, 114, 101, 99, 111, 114, 100, 101, 100]⟩ 1).run Tryf.prog w = .ok [(0, 115, false)] w := by kernel_rfl
theorem Tryf.fmt1 : FmtStop.printed? ⟨#[108, 105, 99, 101, 110, 99, 101, 32, 37, 115, 32, 105, 115, 32, 37, 115, 44, 32, 110, 111, 116, 32, 37, 115]⟩ 3 = some [(0, 115, false), (1, 115, false), (2, 115, false)] := by kernel_rfl
theorem Tryf.fmt1r (w : World) : (FmtDoors.printed ⟨#[108, 105, 99, 101, 110, 99, 101, 32, 37, 115, 32, 105, 115, 32, 37, 115, 44, 32, 110, 111, 116, 32, 37, 115]⟩ 3).run Tryf.prog w = .ok [(0, 115, false), (1, 115, false), (2, 115, false)] w := by kernel_rfl

def Tryf.shape9 : List UInt8 := [12, 6, 0, 0, 0, 0, 0, 0, 0, 115, 116, 114, 105, 110, 103]
def Tryf.shape24 : List UInt8 := 12 :: FmtStop.pack "library.LicenseStatus".toUTF8.data.toList
theorem Tryf.op9_115w (name : String) (x : ByteArray) (w : World) : (FmtStop.operand name true 115 false (.iface 9 (.string x))).run Tryf.prog w = .ok (Tryf.shape9, FmtStop.pack x.data.toList) w := by kernel_rfl
theorem Tryf.op24_115w (name : String) (x : ByteArray) (w : World) : (FmtStop.operand name true 115 false (.iface 24 (.string x))).run Tryf.prog w = .ok (Tryf.shape24, FmtStop.pack x.data.toList) w := by kernel_rfl

theorem Tryf.ptr82 (w : World) : (FmtStop.ptrTo "errors.errorString").run Tryf.prog w = .ok 82 w := by kernel_rfl
theorem Tryf.elem82 (w : World) : (elemOf 82).run Tryf.prog w = .ok 84 w := by kernel_rfl
theorem Tryf.isError82' (w : World) : (FmtDoors.textMethod 82 "Error").run Tryf.prog w = .ok true w := by kernel_rfl
end Go.Proofs
