import Derived.Test.Qxb6625820aFmtProg
import Derived.Stop.CallBack
import Derived.Stop.IfaceNil
import GoSem.ClaimData
/-! The closed facts for a walk over fmt's stopped front: each by the kernel's own evaluation. -/
namespace Go.Proofs
open Go.Extern.Stop Go.Stop Go.Extern

theorem Tryf.call9 (args : Array Value) (w : World) : (callFunc 9 args).run Tryf.prog w = ((FmtStop.errorf #[9, 40] #[25] args).run Tryf.prog w).andThen fun v w' => .ok (.value v) w' :=
  run_callFunc_extern Tryf.func9 (by kernel_rfl) (by kernel_rfl) (by kernel_rfl) (by kernel_rfl) args w

theorem Tryf.guard (name : String) (w : World) : (FmtStop.guard name).run Tryf.prog w = .ok () w := by kernel_rfl

/-- The format of the complaint on until. -/
def Tryf.fmtU : ByteArray := ⟨#[99, 104, 117, 114, 110, 58, 32, 34, 117, 110, 116, 105, 108, 34, 32, 105, 115, 32, 37, 100, 59, 32, 105, 116, 32, 109, 117, 115, 116, 32, 98, 101, 32, 102, 114, 111, 109, 32, 49, 32, 116, 111, 32, 109, 97, 120, 95, 115, 116, 101, 112, 115, 32, 40, 37, 100, 41]⟩
/-- The format of the complaint on stay. -/
def Tryf.fmtS : ByteArray := ⟨#[99, 104, 117, 114, 110, 58, 32, 34, 115, 116, 97, 121, 34, 32, 105, 115, 32, 37, 100, 59, 32, 105, 116, 32, 109, 117, 115, 116, 32, 98, 101, 32, 49, 32, 111, 114, 32, 109, 111, 114, 101]⟩

theorem Tryf.fmtU2 : FmtStop.printed? ⟨#[99, 104, 117, 114, 110, 58, 32, 34, 117, 110, 116, 105, 108, 34, 32, 105, 115, 32, 37, 100, 59, 32, 105, 116, 32, 109, 117, 115, 116, 32, 98, 101, 32, 102, 114, 111, 109, 32, 49, 32, 116, 111, 32, 109, 97, 120, 95, 115, 116, 101, 112, 115, 32, 40, 37, 100, 41]⟩ 2 = some [(0, 100, false), (1, 100, false)] := by kernel_rfl
theorem Tryf.fmtU2r (w : World) : (FmtDoors.printed ⟨#[99, 104, 117, 114, 110, 58, 32, 34, 117, 110, 116, 105, 108, 34, 32, 105, 115, 32, 37, 100, 59, 32, 105, 116, 32, 109, 117, 115, 116, 32, 98, 101, 32, 102, 114, 111, 109, 32, 49, 32, 116, 111, 32, 109, 97, 120, 95, 115, 116, 101, 112, 115, 32, 40, 37, 100, 41]⟩ 2).run Tryf.prog w = .ok [(0, 100, false), (1, 100, false)] w := by kernel_rfl
theorem Tryf.fmtS1 : FmtStop.printed? ⟨#[99, 104, 117, 114, 110, 58, 32, 34, 115, 116, 97, 121, 34, 32, 105, 115, 32, 37, 100, 59, 32, 105, 116, 32, 109, 117, 115, 116, 32, 98, 101, 32, 49, 32, 111, 114, 32, 109, 111, 114, 101]⟩ 1 = some [(0, 100, false)] := by kernel_rfl
theorem Tryf.fmtS1r (w : World) : (FmtDoors.printed ⟨#[99, 104, 117, 114, 110, 58, 32, 34, 115, 116, 97, 121, 34, 32, 105, 115, 32, 37, 100, 59, 32, 105, 116, 32, 109, 117, 115, 116, 32, 98, 101, 32, 49, 32, 111, 114, 32, 109, 111, 114, 101]⟩ 1).run Tryf.prog w = .ok [(0, 100, false)] w := by kernel_rfl

def Tryf.shape3 : List UInt8 := [5, 3, 0, 0, 0, 0, 0, 0, 0, 105, 110, 116]
theorem Tryf.op3_100 (name : String) (x : Int) (w : World) : (FmtStop.operand name false 100 false (.iface 3 (.int .i64 x))).run Tryf.prog w = .ok (Tryf.shape3, Go.Extern.Stop.digits 8 (x % 2 ^ 64).toNat) w := by kernel_rfl
theorem Tryf.op3_100w (name : String) (x : Int) (w : World) : (FmtStop.operand name true 100 false (.iface 3 (.int .i64 x))).run Tryf.prog w = .ok (Tryf.shape3, Go.Extern.Stop.digits 8 (x % 2 ^ 64).toNat) w := by kernel_rfl
theorem Tryf.strict3 (name : String) (x : Int) (w : World) : (FmtStop.strict name (.iface 3 (.int .i64 x))).run Tryf.prog w = .ok (Tryf.shape3, Go.Extern.Stop.digits 8 (x % 2 ^ 64).toNat) w := by kernel_rfl

theorem Tryf.ptr37 (w : World) : (FmtStop.ptrTo "errors.errorString").run Tryf.prog w = .ok 37 w := by kernel_rfl
theorem Tryf.elem37 (w : World) : (elemOf 37).run Tryf.prog w = .ok 39 w := by kernel_rfl
theorem Tryf.isError37 (w : World) : (FmtDoors.textMethod 37 "Error").run Tryf.prog w = .ok true w := by kernel_rfl

end Go.Proofs
