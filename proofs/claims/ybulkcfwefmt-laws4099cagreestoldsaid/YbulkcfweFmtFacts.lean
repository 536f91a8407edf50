/-
  The closed facts for a walk over the stopped front fmt.errorf in this seat's program (after the kit's CheckFmt): each by the kernel's own evaluation.
-/
import Derived.Test.YbulkcfweFmtProg
import Derived.Stop.CallBack
import Derived.Stop.IfaceNil
import GoSem.ClaimData
import Derived.WalkKit
import Derived.WalkSpells
import Derived.WalkLawsBesides
namespace Go.Proofs
open Go.Extern.Stop Go.Stop Go.Extern Go.RowKit

@[go_sem] theorem Ybaf.call11 (args : Array Value) (w : World) : (callFunc 11 args).run Ybaf.prog w = ((FmtStop.errorf #[9, 36] #[27] args).run Ybaf.prog w).andThen fun v w' => .ok (.value v) w' :=
  run_callFunc_extern Ybaf.func11 (by kernel_rfl) (by kernel_rfl) (by kernel_rfl) (by kernel_rfl) args w

@[go_sem] theorem Ybaf.guard (name : String) (w : World) : (FmtStop.guard name).run Ybaf.prog w = .ok () w := by kernel_rfl

@[go_sem] theorem Ybaf.fmt0 : FmtStop.printed? ⟨#[108, 105, 110, 101, 32, 37, 100, 58, 32, 106, 111, 98, 32, 37, 100, 32, 119, 111, 117, 108, 100, 32, 101, 110, 100, 32, 97, 102, 116, 101, 114, 32, 115, 101, 99, 111, 110, 100, 32, 37, 100]⟩ 3 = some [(0, 100, false), (1, 100, false), (2, 100, false)] := by kernel_rfl
@[go_sem] theorem Ybaf.fmt0r (w : World) : (FmtDoors.printed ⟨#[108, 105, 110, 101, 32, 37, 100, 58, 32, 106, 111, 98, 32, 37, 100, 32, 119, 111, 117, 108, 100, 32, 101, 110, 100, 32, 97, 102, 116, 101, 114, 32, 115, 101, 99, 111, 110, 100, 32, 37, 100]⟩ 3).run Ybaf.prog w = .ok [(0, 100, false), (1, 100, false), (2, 100, false)] w := by kernel_rfl

theorem Ybaf.name3 : Ybaf.prog.typeName? 3 3 = some "int" := by kernel_rfl
def Ybaf.shape3 : List UInt8 := [5, 3, 0, 0, 0, 0, 0, 0, 0, 105, 110, 116]
def Ybaf.shape2 : List UInt8 := [5, 5, 0, 0, 0, 0, 0, 0, 0, 105, 110, 116, 54, 52]
@[go_sem] theorem Ybaf.op3_100w (name : String) (x : Int) (w : World) : (FmtStop.operand name true 100 false (.iface 3 (.int .i64 x))).run Ybaf.prog w = .ok (Ybaf.shape3, Go.Extern.Stop.digits 8 (x % 2 ^ 64).toNat) w := by kernel_rfl
@[go_sem] theorem Ybaf.op2_100w (name : String) (x : Int) (w : World) : (FmtStop.operand name true 100 false (.iface 2 (.int .i64 x))).run Ybaf.prog w = .ok (Ybaf.shape2, Go.Extern.Stop.digits 8 (x % 2 ^ 64).toNat) w := by kernel_rfl

@[go_sem] theorem Ybaf.ptr39 (w : World) : (FmtStop.ptrTo "errors.errorString").run Ybaf.prog w = .ok 39 w := by kernel_rfl
@[go_sem] theorem Ybaf.elem39 (w : World) : (elemOf 39).run Ybaf.prog w = .ok 41 w := by kernel_rfl
@[go_sem] theorem Ybaf.isError39 (w : World) : (FmtDoors.textMethod 39 "Error").run Ybaf.prog w = .ok true w := by kernel_rfl

end Go.Proofs
