/-
  The closed facts that a walk over the stopped fmt.errorf wants, over this seat's program: typed by hand after the guide's generated pages of this make. Each by the kernel.
-/
import Derived.Test.YbulkdrlmFmtRows
import Derived.Stop.CallBack
import Derived.Stop.IfaceNil
import Derived.WalkKit
import Derived.WalkSpells
import Derived.WalkLawsBesides
namespace Go.Proofs.YbulkdrlmFmt
open Go.RowKit Go.Extern.Stop Go.Stop Go.Extern

theorem call14 (args : Array Value) (w : World) : (callFunc 14 args).run Ybaf.prog w = ((FmtStop.errorf #[9, 71] #[58] args).run Ybaf.prog w).andThen fun v w' => .ok (.value v) w' :=
  run_callFunc_extern Ybaf.func14 (by kernel_rfl) (by kernel_rfl) (by kernel_rfl) (by kernel_rfl) args w
theorem fguard (name : String) (w : World) : (FmtStop.guard name).run Ybaf.prog w = .ok () w := by kernel_rfl
theorem fmt0 : FmtStop.printed? ⟨#[99, 111, 109, 112, 111, 110, 101, 110, 116, 32, 37, 100, 32, 105, 115, 32, 113, 117, 97, 110, 116, 105, 115, 101, 100, 32, 119, 105, 116, 104, 32, 116, 97, 98, 108, 101, 32, 37, 100, 44, 32, 119, 104, 105, 99, 104, 32, 110, 111, 32, 68, 81, 84, 32, 115, 101, 103, 109, 101, 110, 116, 32, 100, 101, 102, 105, 110, 101, 115]⟩ 2 = some [(0, 100, false), (1, 100, false)] := by kernel_rfl
theorem fmt0r (w : World) : (FmtDoors.printed ⟨#[99, 111, 109, 112, 111, 110, 101, 110, 116, 32, 37, 100, 32, 105, 115, 32, 113, 117, 97, 110, 116, 105, 115, 101, 100, 32, 119, 105, 116, 104, 32, 116, 97, 98, 108, 101, 32, 37, 100, 44, 32, 119, 104, 105, 99, 104, 32, 110, 111, 32, 68, 81, 84, 32, 115, 101, 103, 109, 101, 110, 116, 32, 100, 101, 102, 105, 110, 101, 115]⟩ 2).run Ybaf.prog w = .ok [(0, 100, false), (1, 100, false)] w := by kernel_rfl
theorem fmt1 : FmtStop.printed? ⟨#[37, 100, 32, 105, 115, 32, 109, 111, 114, 101, 32, 116, 104, 97, 110, 32, 37, 100, 32, 98, 105, 116, 115, 32, 104, 111, 108, 100]⟩ 2 = some [(0, 100, false), (1, 100, false)] := by kernel_rfl
theorem fmt1r (w : World) : (FmtDoors.printed ⟨#[37, 100, 32, 105, 115, 32, 109, 111, 114, 101, 32, 116, 104, 97, 110, 32, 37, 100, 32, 98, 105, 116, 115, 32, 104, 111, 108, 100]⟩ 2).run Ybaf.prog w = .ok [(0, 100, false), (1, 100, false)] w := by kernel_rfl
def shape3 : List UInt8 := [5, 3, 0, 0, 0, 0, 0, 0, 0, 105, 110, 116]
def shape5 : List UInt8 := [6, 5, 0, 0, 0, 0, 0, 0, 0, 117, 105, 110, 116, 56]
theorem op3_100w (name : String) (x : Int) (w : World) : (FmtStop.operand name true 100 false (.iface 3 (.int .i64 x))).run Ybaf.prog w = .ok (shape3, Go.Extern.Stop.digits 8 (x % 2 ^ 64).toNat) w := by kernel_rfl
theorem op5_100w (name : String) (x : Int) (w : World) : (FmtStop.operand name true 100 false (.iface 5 (.int .u8 x))).run Ybaf.prog w = .ok (shape5, Go.Extern.Stop.digits 8 (x % 2 ^ 64).toNat) w := by kernel_rfl
theorem ptr74 (w : World) : (FmtStop.ptrTo "errors.errorString").run Ybaf.prog w = .ok 74 w := by kernel_rfl
theorem elem74 (w : World) : (elemOf 74).run Ybaf.prog w = .ok 76 w := by kernel_rfl
theorem isError74 (w : World) : (FmtDoors.textMethod 74 "Error").run Ybaf.prog w = .ok true w := by kernel_rfl

end Go.Proofs.YbulkdrlmFmt
