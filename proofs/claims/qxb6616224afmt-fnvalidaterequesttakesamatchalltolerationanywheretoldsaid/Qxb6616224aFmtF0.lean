/-
  THE CLOSED FACTS FOR A WALK OVER fmt.Sprintf, A STOP OF THIS CUT (function 17): by the kernel's own evaluation.
-/
import Derived.Test.Qxb6616224aFmtRows
import Derived.Stop.CallBack
import Derived.Stop.IfaceNil
import GoSem.ClaimData
namespace Go.Proofs.Qxb6616224aFmt
open Go.Extern.Stop Go.Stop Go.Extern

theorem call17 (args : Array Value) (w : World) : (callFunc 17 args).run Tryf.prog w = ((FmtStop.sprintf #[9, 77] #[9] args).run Tryf.prog w).andThen fun v w' => .ok (.value v) w' :=
  run_callFunc_extern Tryf.func17 (by kernel_rfl) (by kernel_rfl) (by kernel_rfl) (by kernel_rfl) args w
theorem guard17 (name : String) (w : World) : (FmtStop.guard name).run Tryf.prog w = .ok () w := by kernel_rfl

-- 2 operands
theorem f0 : FmtStop.printed? ⟨#[37, 115, 91, 37, 100, 93]⟩ 2 = some [(0, 115, false), (1, 100, false)] := by kernel_rfl
theorem f0r (w : World) : (FmtDoors.printed ⟨#[37, 115, 91, 37, 100, 93]⟩ 2).run Tryf.prog w = .ok [(0, 115, false), (1, 100, false)] w := by kernel_rfl
-- 2 operands
theorem f1 : FmtStop.printed? ⟨#[37, 115, 91, 37, 100, 93, 46, 99, 101, 108, 46, 101, 120, 112, 114, 101, 115, 115, 105, 111, 110]⟩ 2 = some [(0, 115, false), (1, 100, false)] := by kernel_rfl
theorem f1r (w : World) : (FmtDoors.printed ⟨#[37, 115, 91, 37, 100, 93, 46, 99, 101, 108, 46, 101, 120, 112, 114, 101, 115, 115, 105, 111, 110]⟩ 2).run Tryf.prog w = .ok [(0, 115, false), (1, 100, false)] w := by kernel_rfl
-- 3 operands
theorem f2 : FmtStop.printed? ⟨#[37, 100, 32, 37, 115, 44, 32, 109, 111, 114, 101, 32, 116, 104, 97, 110, 32, 116, 104, 101, 32, 108, 105, 109, 105, 116, 32, 111, 102, 32, 37, 100]⟩ 3 = some [(0, 100, false), (1, 115, false), (2, 100, false)] := by kernel_rfl
theorem f2r (w : World) : (FmtDoors.printed ⟨#[37, 100, 32, 37, 115, 44, 32, 109, 111, 114, 101, 32, 116, 104, 97, 110, 32, 116, 104, 101, 32, 108, 105, 109, 105, 116, 32, 111, 102, 32, 37, 100]⟩ 3).run Tryf.prog w = .ok [(0, 100, false), (1, 115, false), (2, 100, false)] w := by kernel_rfl
-- 1 operands
theorem f3 : FmtStop.printed? ⟨#[109, 105, 115, 115, 105, 110, 103, 59, 32, 111, 110, 108, 121, 32, 111, 112, 101, 114, 97, 116, 111, 114, 32, 37, 115, 32, 109, 97, 116, 99, 104, 101, 115, 32, 101, 118, 101, 114, 121, 32, 107, 101, 121]⟩ 1 = some [(0, 115, false)] := by kernel_rfl
theorem f3r (w : World) : (FmtDoors.printed ⟨#[109, 105, 115, 115, 105, 110, 103, 59, 32, 111, 110, 108, 121, 32, 111, 112, 101, 114, 97, 116, 111, 114, 32, 37, 115, 32, 109, 97, 116, 99, 104, 101, 115, 32, 101, 118, 101, 114, 121, 32, 107, 101, 121]⟩ 1).run Tryf.prog w = .ok [(0, 115, false)] w := by kernel_rfl
-- 1 operands
theorem f4 : FmtStop.printed? ⟨#[109, 117, 115, 116, 32, 110, 111, 116, 32, 98, 101, 32, 115, 101, 116, 32, 119, 105, 116, 104, 32, 111, 112, 101, 114, 97, 116, 111, 114, 32, 37, 115]⟩ 1 = some [(0, 115, false)] := by kernel_rfl
theorem f4r (w : World) : (FmtDoors.printed ⟨#[109, 117, 115, 116, 32, 110, 111, 116, 32, 98, 101, 32, 115, 101, 116, 32, 119, 105, 116, 104, 32, 111, 112, 101, 114, 97, 116, 111, 114, 32, 37, 115]⟩ 1).run Tryf.prog w = .ok [(0, 115, false)] w := by kernel_rfl
-- 3 operands
theorem f5 : FmtStop.printed? ⟨#[37, 113, 59, 32, 116, 104, 101, 32, 111, 112, 101, 114, 97, 116, 111, 114, 32, 105, 115, 32, 37, 115, 32, 111, 114, 32, 37, 115]⟩ 3 = some [(0, 113, false), (1, 115, false), (2, 115, false)] := by kernel_rfl
theorem f5r (w : World) : (FmtDoors.printed ⟨#[37, 113, 59, 32, 116, 104, 101, 32, 111, 112, 101, 114, 97, 116, 111, 114, 32, 105, 115, 32, 37, 115, 32, 111, 114, 32, 37, 115]⟩ 3).run Tryf.prog w = .ok [(0, 113, false), (1, 115, false), (2, 115, false)] w := by kernel_rfl
-- 4 operands
theorem f6 : FmtStop.printed? ⟨#[37, 113, 59, 32, 116, 104, 101, 32, 101, 102, 102, 101, 99, 116, 32, 105, 115, 32, 37, 115, 44, 32, 37, 115, 32, 111, 114, 32, 37, 115, 44, 32, 111, 114, 32, 110, 111, 110, 101, 32, 102, 111, 114, 32, 101, 118, 101, 114, 121, 32, 101, 102, 102, 101, 99, 116]⟩ 4 = some [(0, 113, false), (1, 115, false), (2, 115, false), (3, 115, false)] := by kernel_rfl
theorem f6r (w : World) : (FmtDoors.printed ⟨#[37, 113, 59, 32, 116, 104, 101, 32, 101, 102, 102, 101, 99, 116, 32, 105, 115, 32, 37, 115, 44, 32, 37, 115, 32, 111, 114, 32, 37, 115, 44, 32, 111, 114, 32, 110, 111, 110, 101, 32, 102, 111, 114, 32, 101, 118, 101, 114, 121, 32, 101, 102, 102, 101, 99, 116]⟩ 4).run Tryf.prog w = .ok [(0, 113, false), (1, 115, false), (2, 115, false), (3, 115, false)] w := by kernel_rfl

def shape3 : List UInt8 := [5, 3, 0, 0, 0, 0, 0, 0, 0, 105, 110, 116]
def shape9 : List UInt8 := [12, 6, 0, 0, 0, 0, 0, 0, 0, 115, 116, 114, 105, 110, 103]
theorem op3_100 (name : String) (x : Int) (w : World) : (FmtStop.operand name false 100 false (.iface 3 (.int .i64 x))).run Tryf.prog w = .ok (shape3, Go.Extern.Stop.digits 8 (x % 2 ^ 64).toNat) w := by kernel_rfl
theorem op9_115 (name : String) (x : ByteArray) (w : World) : (FmtStop.operand name false 115 false (.iface 9 (.string x))).run Tryf.prog w = .ok (shape9, FmtStop.pack x.data.toList) w := by kernel_rfl
theorem op9_113 (name : String) (x : ByteArray) (w : World) : (FmtStop.operand name false 113 false (.iface 9 (.string x))).run Tryf.prog w = .ok (shape9, FmtStop.pack x.data.toList) w := by kernel_rfl

end Go.Proofs.Qxb6616224aFmt
