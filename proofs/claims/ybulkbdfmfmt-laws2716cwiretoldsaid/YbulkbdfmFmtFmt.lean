/-
  THE CLOSED FACTS FOR A WALK OVER fmt.errorf, stopped, at this seat's dump (after the guide's generated worked facts, turned to this program). Each is proved by the kernel's own evaluation.
-/
import Derived.Test.YbulkbdfmFmtProg
import Derived.Stop.CallBack
import Derived.Stop.IfaceNil
import GoSem.ClaimData
namespace Go.Proofs.YbulkbdfmFmt
open Go.Extern.Stop Go.Stop Go.Extern

theorem call14 (args : Array Value) (w : World) : (callFunc 14 args).run Ybaf.prog w = ((FmtStop.errorf #[9, 47] #[24] args).run Ybaf.prog w).andThen fun v w' => .ok (.value v) w' :=
  run_callFunc_extern Ybaf.func14 (by kernel_rfl) (by kernel_rfl) (by kernel_rfl) (by kernel_rfl) args w
theorem guard (name : String) (w : World) : (FmtStop.guard name).run Ybaf.prog w = .ok () w := by kernel_rfl
theorem fmt0 : FmtStop.printed? ⟨#[105, 110, 102, 111, 114, 109, 97, 116, 105, 111, 110, 32, 101, 108, 101, 109, 101, 110, 116, 32, 37, 48, 50, 120, 32, 101, 110, 100, 115, 32, 98, 101, 102, 111, 114, 101, 32, 105, 116, 115, 32, 108, 101, 110, 103, 116, 104, 32, 111, 99, 116, 101, 116]⟩ 1 = some [(0, 120, false)] := by kernel_rfl
theorem fmt0r (w : World) : (FmtDoors.printed ⟨#[105, 110, 102, 111, 114, 109, 97, 116, 105, 111, 110, 32, 101, 108, 101, 109, 101, 110, 116, 32, 37, 48, 50, 120, 32, 101, 110, 100, 115, 32, 98, 101, 102, 111, 114, 101, 32, 105, 116, 115, 32, 108, 101, 110, 103, 116, 104, 32, 111, 99, 116, 101, 116]⟩ 1).run Ybaf.prog w = .ok [(0, 120, false)] w := by kernel_rfl
theorem fmt1 : FmtStop.printed? ⟨#[105, 110, 102, 111, 114, 109, 97, 116, 105, 111, 110, 32, 101, 108, 101, 109, 101, 110, 116, 32, 37, 48, 50, 120, 32, 97, 110, 110, 111, 117, 110, 99, 101, 115, 32, 37, 100, 32, 111, 99, 116, 101, 116, 115, 32, 111, 102, 32, 99, 111, 110, 116, 101, 110, 116, 115, 32, 97, 110, 100, 32, 104, 97, 115, 32, 37, 100]⟩ 3 = some [(0, 120, false), (1, 100, false), (2, 100, false)] := by kernel_rfl
theorem fmt1r (w : World) : (FmtDoors.printed ⟨#[105, 110, 102, 111, 114, 109, 97, 116, 105, 111, 110, 32, 101, 108, 101, 109, 101, 110, 116, 32, 37, 48, 50, 120, 32, 97, 110, 110, 111, 117, 110, 99, 101, 115, 32, 37, 100, 32, 111, 99, 116, 101, 116, 115, 32, 111, 102, 32, 99, 111, 110, 116, 101, 110, 116, 115, 32, 97, 110, 100, 32, 104, 97, 115, 32, 37, 100]⟩ 3).run Ybaf.prog w = .ok [(0, 120, false), (1, 100, false), (2, 100, false)] w := by kernel_rfl
theorem fmt2 : FmtStop.printed? ⟨#[110, 101, 116, 119, 111, 114, 107, 32, 105, 110, 100, 105, 99, 97, 116, 111, 114, 32, 37, 100, 32, 105, 115, 32, 97, 98, 111, 118, 101, 32, 37, 100]⟩ 2 = some [(0, 100, false), (1, 100, false)] := by kernel_rfl
theorem fmt2r (w : World) : (FmtDoors.printed ⟨#[110, 101, 116, 119, 111, 114, 107, 32, 105, 110, 100, 105, 99, 97, 116, 111, 114, 32, 37, 100, 32, 105, 115, 32, 97, 98, 111, 118, 101, 32, 37, 100]⟩ 2).run Ybaf.prog w = .ok [(0, 100, false), (1, 100, false)] w := by kernel_rfl
theorem fmt3 : FmtStop.printed? ⟨#[115, 101, 114, 118, 105, 99, 101, 32, 105, 110, 100, 105, 99, 97, 116, 111, 114, 32, 37, 100, 32, 105, 115, 32, 97, 98, 111, 118, 101, 32, 49, 53]⟩ 1 = some [(0, 100, false)] := by kernel_rfl
theorem fmt3r (w : World) : (FmtDoors.printed ⟨#[115, 101, 114, 118, 105, 99, 101, 32, 105, 110, 100, 105, 99, 97, 116, 111, 114, 32, 37, 100, 32, 105, 115, 32, 97, 98, 111, 118, 101, 32, 49, 53]⟩ 1).run Ybaf.prog w = .ok [(0, 100, false)] w := by kernel_rfl
theorem fmt4 : FmtStop.printed? ⟨#[68, 80, 67, 32, 37, 100, 32, 105, 115, 32, 97, 98, 111, 118, 101, 32, 37, 100]⟩ 2 = some [(0, 100, false), (1, 100, false)] := by kernel_rfl
theorem fmt4r (w : World) : (FmtDoors.printed ⟨#[68, 80, 67, 32, 37, 100, 32, 105, 115, 32, 97, 98, 111, 118, 101, 32, 37, 100]⟩ 2).run Ybaf.prog w = .ok [(0, 100, false), (1, 100, false)] w := by kernel_rfl
theorem fmt5 : FmtStop.printed? ⟨#[79, 80, 67, 32, 37, 100, 32, 105, 115, 32, 97, 98, 111, 118, 101, 32, 37, 100]⟩ 2 = some [(0, 100, false), (1, 100, false)] := by kernel_rfl
theorem fmt5r (w : World) : (FmtDoors.printed ⟨#[79, 80, 67, 32, 37, 100, 32, 105, 115, 32, 97, 98, 111, 118, 101, 32, 37, 100]⟩ 2).run Ybaf.prog w = .ok [(0, 100, false), (1, 100, false)] w := by kernel_rfl
theorem fmt6 : FmtStop.printed? ⟨#[83, 76, 83, 32, 37, 100, 32, 105, 115, 32, 97, 98, 111, 118, 101, 32, 37, 100]⟩ 2 = some [(0, 100, false), (1, 100, false)] := by kernel_rfl
theorem fmt6r (w : World) : (FmtDoors.printed ⟨#[83, 76, 83, 32, 37, 100, 32, 105, 115, 32, 97, 98, 111, 118, 101, 32, 37, 100]⟩ 2).run Ybaf.prog w = .ok [(0, 100, false), (1, 100, false)] w := by kernel_rfl
theorem fmt7 : FmtStop.printed? ⟨#[102, 114, 97, 109, 101, 32, 111, 102, 32, 37, 100, 32, 111, 99, 116, 101, 116, 115, 32, 105, 115, 32, 115, 104, 111, 114, 116, 101, 114, 32, 116, 104, 97, 110, 32, 97, 110, 32, 83, 73, 79, 32, 97, 110, 100, 32, 97, 32, 114, 111, 117, 116, 105, 110, 103, 32, 108, 97, 98, 101, 108]⟩ 1 = some [(0, 100, false)] := by kernel_rfl
theorem fmt7r (w : World) : (FmtDoors.printed ⟨#[102, 114, 97, 109, 101, 32, 111, 102, 32, 37, 100, 32, 111, 99, 116, 101, 116, 115, 32, 105, 115, 32, 115, 104, 111, 114, 116, 101, 114, 32, 116, 104, 97, 110, 32, 97, 110, 32, 83, 73, 79, 32, 97, 110, 100, 32, 97, 32, 114, 111, 117, 116, 105, 110, 103, 32, 108, 97, 98, 101, 108]⟩ 1).run Ybaf.prog w = .ok [(0, 100, false)] w := by kernel_rfl
def shape5 : List UInt8 := [6, 5, 0, 0, 0, 0, 0, 0, 0, 117, 105, 110, 116, 56]
theorem op5_100 (name : String) (x : Int) (w : World) : (FmtStop.operand name false 100 false (.iface 5 (.int .u8 x))).run Ybaf.prog w = .ok (shape5, Go.Extern.Stop.digits 8 (x % 2 ^ 64).toNat) w := by kernel_rfl
theorem op5_100w (name : String) (x : Int) (w : World) : (FmtStop.operand name true 100 false (.iface 5 (.int .u8 x))).run Ybaf.prog w = .ok (shape5, Go.Extern.Stop.digits 8 (x % 2 ^ 64).toNat) w := by kernel_rfl
theorem op5_120 (name : String) (x : Int) (w : World) : (FmtStop.operand name false 120 false (.iface 5 (.int .u8 x))).run Ybaf.prog w = .ok (shape5, Go.Extern.Stop.digits 8 (x % 2 ^ 64).toNat) w := by kernel_rfl
theorem op5_120w (name : String) (x : Int) (w : World) : (FmtStop.operand name true 120 false (.iface 5 (.int .u8 x))).run Ybaf.prog w = .ok (shape5, Go.Extern.Stop.digits 8 (x % 2 ^ 64).toNat) w := by kernel_rfl
def shape31 : List UInt8 := [7, 6, 0, 0, 0, 0, 0, 0, 0, 117, 105, 110, 116, 49, 54]
theorem op31_100 (name : String) (x : Int) (w : World) : (FmtStop.operand name false 100 false (.iface 31 (.int .u16 x))).run Ybaf.prog w = .ok (shape31, Go.Extern.Stop.digits 8 (x % 2 ^ 64).toNat) w := by kernel_rfl
theorem op31_100w (name : String) (x : Int) (w : World) : (FmtStop.operand name true 100 false (.iface 31 (.int .u16 x))).run Ybaf.prog w = .ok (shape31, Go.Extern.Stop.digits 8 (x % 2 ^ 64).toNat) w := by kernel_rfl
def shape3 : List UInt8 := [5, 3, 0, 0, 0, 0, 0, 0, 0, 105, 110, 116]
theorem op3_100 (name : String) (x : Int) (w : World) : (FmtStop.operand name false 100 false (.iface 3 (.int .i64 x))).run Ybaf.prog w = .ok (shape3, Go.Extern.Stop.digits 8 (x % 2 ^ 64).toNat) w := by kernel_rfl
theorem op3_100w (name : String) (x : Int) (w : World) : (FmtStop.operand name true 100 false (.iface 3 (.int .i64 x))).run Ybaf.prog w = .ok (shape3, Go.Extern.Stop.digits 8 (x % 2 ^ 64).toNat) w := by kernel_rfl
theorem ptr44 (w : World) : (FmtStop.ptrTo "errors.errorString").run Ybaf.prog w = .ok 44 w := by kernel_rfl
theorem elem44 (w : World) : (elemOf 44).run Ybaf.prog w = .ok 46 w := by kernel_rfl
theorem isError44 (w : World) : (FmtDoors.textMethod 44 "Error").run Ybaf.prog w = .ok true w := by kernel_rfl

end Go.Proofs.YbulkbdfmFmt
