/-
  CLOSED FACTS FOR A WALK OVER fmt's STOPPED FRONTS at this dump, each by the kernel's own evaluation (after the guide's worked CheckFmt).
-/
import Derived.Test.Qxb6613846aFmtProg
import Derived.Stop.CallBack
import Derived.Stop.IfaceNil
import GoSem.ClaimData
namespace Go.Proofs.Qxb6613846aFmt
open Go.Extern.Stop Go.Stop Go.Extern

theorem call29 (args : Array Value) (w : World) : (callFunc 29 args).run Tryf.prog w = ((FmtStop.sprintf #[9, 72] #[9] args).run Tryf.prog w).andThen fun v w' => .ok (.value v) w' :=
  run_callFunc_extern Tryf.func29 (by kernel_rfl) (by kernel_rfl) (by kernel_rfl) (by kernel_rfl) args w
theorem call33 (args : Array Value) (w : World) : (callFunc 33 args).run Tryf.prog w = ((FmtStop.errorf #[9, 72] #[59] args).run Tryf.prog w).andThen fun v w' => .ok (.value v) w' :=
  run_callFunc_extern Tryf.func33 (by kernel_rfl) (by kernel_rfl) (by kernel_rfl) (by kernel_rfl) args w
theorem guard (name : String) (w : World) : (FmtStop.guard name).run Tryf.prog w = .ok () w := by kernel_rfl
theorem fmt0 : FmtStop.printed? ⟨#[119, 104, 97, 116, 32, 116, 104, 101, 32, 111, 98, 106, 101, 99, 116, 32, 111, 102, 32, 112, 37, 100, 32, 99, 97, 110, 32, 104, 97, 110, 100, 32, 105, 116]⟩ 1 = some [(0, 100, false)] := by kernel_rfl
theorem fmt0r (w : World) : (FmtDoors.printed ⟨#[119, 104, 97, 116, 32, 116, 104, 101, 32, 111, 98, 106, 101, 99, 116, 32, 111, 102, 32, 112, 37, 100, 32, 99, 97, 110, 32, 104, 97, 110, 100, 32, 105, 116]⟩ 1).run Tryf.prog w = .ok [(0, 100, false)] w := by kernel_rfl
theorem fmt1 : FmtStop.printed? ⟨#[116, 104, 101, 32, 101, 115, 116, 105, 109, 97, 116, 101, 115, 32, 112, 37, 100, 32, 114, 101, 99, 101, 105, 118, 101, 100]⟩ 1 = some [(0, 100, false)] := by kernel_rfl
theorem fmt1r (w : World) : (FmtDoors.printed ⟨#[116, 104, 101, 32, 101, 115, 116, 105, 109, 97, 116, 101, 115, 32, 112, 37, 100, 32, 114, 101, 99, 101, 105, 118, 101, 100]⟩ 1).run Tryf.prog w = .ok [(0, 100, false)] w := by kernel_rfl
theorem fmt2 : FmtStop.printed? ⟨#[37, 115, 32, 105, 115, 32, 110, 111, 116, 32, 111, 110, 101, 32, 111, 102, 32, 37, 115, 44, 32, 37, 115, 32, 105, 110, 32, 114, 111, 117, 110, 100, 32, 37, 100]⟩ 4 = some [(0, 115, false), (1, 115, false), (2, 115, false), (3, 100, false)] := by kernel_rfl
theorem fmt2r (w : World) : (FmtDoors.printed ⟨#[37, 115, 32, 105, 115, 32, 110, 111, 116, 32, 111, 110, 101, 32, 111, 102, 32, 37, 115, 44, 32, 37, 115, 32, 105, 110, 32, 114, 111, 117, 110, 100, 32, 37, 100]⟩ 4).run Tryf.prog w = .ok [(0, 115, false), (1, 115, false), (2, 115, false), (3, 100, false)] w := by kernel_rfl
theorem fmt2z : FmtStop.printed? ⟨#[37, 115, 32, 105, 115, 32, 110, 111, 116, 32, 111, 110, 101, 32, 111, 102, 32, 37, 115, 44, 32, 37, 115, 32, 105, 110, 32, 114, 111, 117, 110, 100, 32, 37, 100]⟩ 0 = some [] := by kernel_rfl
theorem fmt2zr (w : World) : (FmtDoors.printed ⟨#[37, 115, 32, 105, 115, 32, 110, 111, 116, 32, 111, 110, 101, 32, 111, 102, 32, 37, 115, 44, 32, 37, 115, 32, 105, 110, 32, 114, 111, 117, 110, 100, 32, 37, 100]⟩ 0).run Tryf.prog w = .ok [] w := by kernel_rfl
def shape9 : List UInt8 := [12, 6, 0, 0, 0, 0, 0, 0, 0, 115, 116, 114, 105, 110, 103]
def shape48 : List UInt8 := [12, 12, 0, 0, 0, 0, 0, 0, 0, 107, 97, 103, 114, 101, 101, 46, 86, 97, 108, 117, 101]
def shape3 : List UInt8 := [5, 3, 0, 0, 0, 0, 0, 0, 0, 105, 110, 116]
theorem op9_false (name : String) (x : ByteArray) (w : World) : (FmtStop.operand name false 115 false (.iface 9 (.string x))).run Tryf.prog w = .ok (shape9, FmtStop.pack x.data.toList) w := by kernel_rfl
theorem op9_true (name : String) (x : ByteArray) (w : World) : (FmtStop.operand name true 115 false (.iface 9 (.string x))).run Tryf.prog w = .ok (shape9, FmtStop.pack x.data.toList) w := by kernel_rfl
theorem op48_false (name : String) (x : ByteArray) (w : World) : (FmtStop.operand name false 115 false (.iface 48 (.string x))).run Tryf.prog w = .ok (shape48, FmtStop.pack x.data.toList) w := by kernel_rfl
theorem op48_true (name : String) (x : ByteArray) (w : World) : (FmtStop.operand name true 115 false (.iface 48 (.string x))).run Tryf.prog w = .ok (shape48, FmtStop.pack x.data.toList) w := by kernel_rfl
theorem op3_false (name : String) (x : Int) (w : World) : (FmtStop.operand name false 100 false (.iface 3 (.int .i64 x))).run Tryf.prog w = .ok (shape3, Go.Extern.Stop.digits 8 (x % 2 ^ 64).toNat) w := by kernel_rfl
theorem op3_true (name : String) (x : Int) (w : World) : (FmtStop.operand name true 100 false (.iface 3 (.int .i64 x))).run Tryf.prog w = .ok (shape3, Go.Extern.Stop.digits 8 (x % 2 ^ 64).toNat) w := by kernel_rfl
theorem ptr69 (w : World) : (FmtStop.ptrTo "errors.errorString").run Tryf.prog w = .ok 69 w := by kernel_rfl
theorem elem69 (w : World) : (elemOf 69).run Tryf.prog w = .ok 71 w := by kernel_rfl
theorem isError69 (w : World) : (FmtDoors.textMethod 69 "Error").run Tryf.prog w = .ok true w := by kernel_rfl

end Go.Proofs.Qxb6613846aFmt
