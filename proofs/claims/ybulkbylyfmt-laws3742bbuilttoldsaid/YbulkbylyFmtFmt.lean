/- The closed facts for a walk over fmt.errorf's stop in this program (after the kit's CheckFmt.lean, its numbers turned to this dump). -/
import Derived.Test.YbulkbylyFmtProg
import Derived.Stop.CallBack
import Derived.Stop.IfaceNil
import GoSem.ClaimData
namespace Go.Proofs
open Go.Extern.Stop Go.Stop Go.Extern

@[go_sem] theorem Ybaf.call13 (args : Array Value) (w : World) : (callFunc 13 args).run Ybaf.prog w = ((FmtStop.errorf #[9, 38] #[32] args).run Ybaf.prog w).andThen fun v w' => .ok (.value v) w' :=
  run_callFunc_extern Ybaf.func13 (by kernel_rfl) (by kernel_rfl) (by kernel_rfl) (by kernel_rfl) args w
@[go_sem] theorem Ybaf.guard (name : String) (w : World) : (FmtStop.guard name).run Ybaf.prog w = .ok () w := by kernel_rfl
-- "not valid JSON: more than %d objects and arrays nested (at byte %d)", 2 operands
@[go_sem] theorem Ybaf.fmt0 : FmtStop.printed? ⟨#[110, 111, 116, 32, 118, 97, 108, 105, 100, 32, 74, 83, 79, 78, 58, 32, 109, 111, 114, 101, 32, 116, 104, 97, 110, 32, 37, 100, 32, 111, 98, 106, 101, 99, 116, 115, 32, 97, 110, 100, 32, 97, 114, 114, 97, 121, 115, 32, 110, 101, 115, 116, 101, 100, 32, 40, 97, 116, 32, 98, 121, 116, 101, 32, 37, 100, 41]⟩ 2 = some [(0, 100, false), (1, 100, false)] := by kernel_rfl
@[go_sem] theorem Ybaf.fmt0r (w : World) : (FmtDoors.printed ⟨#[110, 111, 116, 32, 118, 97, 108, 105, 100, 32, 74, 83, 79, 78, 58, 32, 109, 111, 114, 101, 32, 116, 104, 97, 110, 32, 37, 100, 32, 111, 98, 106, 101, 99, 116, 115, 32, 97, 110, 100, 32, 97, 114, 114, 97, 121, 115, 32, 110, 101, 115, 116, 101, 100, 32, 40, 97, 116, 32, 98, 121, 116, 101, 32, 37, 100, 41]⟩ 2).run Ybaf.prog w = .ok [(0, 100, false), (1, 100, false)] w := by kernel_rfl
theorem Ybaf.name3 : Ybaf.prog.typeName? 3 3 = some "int" := by kernel_rfl
def Ybaf.shape3 : List UInt8 := [5, 3, 0, 0, 0, 0, 0, 0, 0, 105, 110, 116]
@[go_sem] theorem Ybaf.op3_100 (name : String) (x : Int) (w : World) : (FmtStop.operand name false 100 false (.iface 3 (.int .i64 x))).run Ybaf.prog w = .ok (Ybaf.shape3, Go.Extern.Stop.digits 8 (x % 2 ^ 64).toNat) w := by kernel_rfl
@[go_sem] theorem Ybaf.op3_100w (name : String) (x : Int) (w : World) : (FmtStop.operand name true 100 false (.iface 3 (.int .i64 x))).run Ybaf.prog w = .ok (Ybaf.shape3, Go.Extern.Stop.digits 8 (x % 2 ^ 64).toNat) w := by kernel_rfl
@[go_sem] theorem Ybaf.strict3 (name : String) (x : Int) (w : World) : (FmtStop.strict name (.iface 3 (.int .i64 x))).run Ybaf.prog w = .ok (Ybaf.shape3, Go.Extern.Stop.digits 8 (x % 2 ^ 64).toNat) w := by kernel_rfl
@[go_sem] theorem Ybaf.ptr42 (w : World) : (FmtStop.ptrTo "errors.errorString").run Ybaf.prog w = .ok 42 w := by kernel_rfl
@[go_sem] theorem Ybaf.elem42 (w : World) : (elemOf 42).run Ybaf.prog w = .ok 44 w := by kernel_rfl
@[go_sem] theorem Ybaf.isError42' (w : World) : (FmtDoors.textMethod 42 "Error").run Ybaf.prog w = .ok true w := by kernel_rfl
end Go.Proofs
