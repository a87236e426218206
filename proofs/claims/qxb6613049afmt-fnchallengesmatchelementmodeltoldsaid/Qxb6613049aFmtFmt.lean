import Derived.Test.Qxb6613049aFmtProg
import Derived.Stop.CallBack
import Derived.Stop.IfaceNil
import GoSem.ClaimData
import Derived.Laws.Cells
import Derived.Stop.FmtTextSlices
namespace Go.Proofs
open Go.Extern.Stop Go.Stop Go.Extern

@[go_sem] theorem Tryf.call43 (args : Array Value) (w : World) : (callFunc 43 args).run Tryf.prog w = ((FmtStop.errorf #[9, 69] #[32] args).run Tryf.prog w).andThen fun v w' => .ok (.value v) w' :=
  run_callFunc_extern Tryf.func43 (by kernel_rfl) (by kernel_rfl) (by kernel_rfl) (by kernel_rfl) args w
@[go_sem] theorem Tryf.guard (name : String) (w : World) : (FmtStop.guard name).run Tryf.prog w = .ok () w := by kernel_rfl
@[go_sem] theorem Tryf.fmt0 : FmtStop.printed? ⟨#[37, 115, 32, 97, 116, 32, 98, 121, 116, 101, 32, 37, 100]⟩ 2 = some [(0, 115, false), (1, 100, false)] := by kernel_rfl
@[go_sem] theorem Tryf.fmt0r (w : World) : (FmtDoors.printed ⟨#[37, 115, 32, 97, 116, 32, 98, 121, 116, 101, 32, 37, 100]⟩ 2).run Tryf.prog w = .ok [(0, 115, false), (1, 100, false)] w := by kernel_rfl
@[go_sem] theorem Tryf.fmt1 : FmtStop.printed? ⟨#[112, 97, 114, 97, 109, 101, 116, 101, 114, 32, 97, 116, 32, 98, 121, 116, 101, 32, 37, 100, 32, 110, 97, 109, 101, 100, 32, 116, 119, 105, 99, 101, 32, 105, 110, 32, 111, 110, 101, 32, 99, 104, 97, 108, 108, 101, 110, 103, 101]⟩ 1 = some [(0, 100, false)] := by kernel_rfl
@[go_sem] theorem Tryf.fmt1r (w : World) : (FmtDoors.printed ⟨#[112, 97, 114, 97, 109, 101, 116, 101, 114, 32, 97, 116, 32, 98, 121, 116, 101, 32, 37, 100, 32, 110, 97, 109, 101, 100, 32, 116, 119, 105, 99, 101, 32, 105, 110, 32, 111, 110, 101, 32, 99, 104, 97, 108, 108, 101, 110, 103, 101]⟩ 1).run Tryf.prog w = .ok [(0, 100, false)] w := by kernel_rfl

def Tryf.shape9 : List UInt8 := [12, 6, 0, 0, 0, 0, 0, 0, 0, 115, 116, 114, 105, 110, 103]
@[go_sem] theorem Tryf.op9_115w (name : String) (x : ByteArray) (w : World) : (FmtStop.operand name true 115 false (.iface 9 (.string x))).run Tryf.prog w = .ok (Tryf.shape9, FmtStop.pack x.data.toList) w := by kernel_rfl
def Tryf.shape3 : List UInt8 := [5, 3, 0, 0, 0, 0, 0, 0, 0, 105, 110, 116]
@[go_sem] theorem Tryf.op3_100w (name : String) (x : Int) (w : World) : (FmtStop.operand name true 100 false (.iface 3 (.int .i64 x))).run Tryf.prog w = .ok (Tryf.shape3, Go.Extern.Stop.digits 8 (x % 2 ^ 64).toNat) w := by kernel_rfl
@[go_sem] theorem Tryf.ptr80 (w : World) : (FmtStop.ptrTo "errors.errorString").run Tryf.prog w = .ok 80 w := by kernel_rfl
@[go_sem] theorem Tryf.elem80 (w : World) : (elemOf 80).run Tryf.prog w = .ok 82 w := by kernel_rfl
@[go_sem] theorem Tryf.isError80 (w : World) : (FmtDoors.textMethod 80 "Error").run Tryf.prog w = .ok true w := by kernel_rfl

end Go.Proofs
