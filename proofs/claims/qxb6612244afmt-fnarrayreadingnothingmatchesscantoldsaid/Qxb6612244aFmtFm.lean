/-
  THE CLOSED FACTS FOR A WALK OVER fmt.Sprintf (function 21: a stop), AND THE TEXTS THAT ARE TOLD.
-/
import Derived.Test.Qxb6612244aFmtRows
import Derived.Stop.CallBack
import Derived.Stop.IfaceNil
import Derived.Stop.FmtTextKit
import Derived.Stop.FmtTextVerbs
import Derived.Stop.FmtTextWidths
import Derived.Stop.JoinedTold
namespace Go.Proofs.Qxb6612244aFmt
open Go.Extern.Stop Go.Stop Go.Extern

theorem Tryf.call21 (args : Array Value) (w : World) : (callFunc 21 args).run Tryf.prog w = ((FmtStop.sprintf #[9, 110] #[9] args).run Tryf.prog w).andThen fun v w' => .ok (.value v) w' :=
  run_callFunc_extern Tryf.func21 (by kernel_rfl) (by kernel_rfl) (by kernel_rfl) (by kernel_rfl) args w
theorem Tryf.guard (name : String) (w : World) : (FmtStop.guard name).run Tryf.prog w = .ok () w := by kernel_rfl

-- 'nests arrays and objects more than %d deep'
def fmN : List UInt8 := [110, 101, 115, 116, 115, 32, 97, 114, 114, 97, 121, 115, 32, 97, 110, 100, 32, 111, 98, 106, 101, 99, 116, 115, 32, 109, 111, 114, 101, 32, 116, 104, 97, 110, 32, 37, 100, 32, 100, 101, 101, 112]
theorem Tryf.fmt0 : FmtStop.printed? ⟨#[110, 101, 115, 116, 115, 32, 97, 114, 114, 97, 121, 115, 32, 97, 110, 100, 32, 111, 98, 106, 101, 99, 116, 115, 32, 109, 111, 114, 101, 32, 116, 104, 97, 110, 32, 37, 100, 32, 100, 101, 101, 112]⟩ 1 = some [(0, 100, false)] := by kernel_rfl
theorem Tryf.fmt0r (w : World) : (FmtDoors.printed ⟨#[110, 101, 115, 116, 115, 32, 97, 114, 114, 97, 121, 115, 32, 97, 110, 100, 32, 111, 98, 106, 101, 99, 116, 115, 32, 109, 111, 114, 101, 32, 116, 104, 97, 110, 32, 37, 100, 32, 100, 101, 101, 112]⟩ 1).run Tryf.prog w = .ok [(0, 100, false)] w := by kernel_rfl
-- 'a comma or %q'
theorem Tryf.fmt1 : FmtStop.printed? ⟨#[97, 32, 99, 111, 109, 109, 97, 32, 111, 114, 32, 37, 113]⟩ 1 = some [(0, 113, false)] := by kernel_rfl
theorem Tryf.fmt1r (w : World) : (FmtDoors.printed ⟨#[97, 32, 99, 111, 109, 109, 97, 32, 111, 114, 32, 37, 113]⟩ 1).run Tryf.prog w = .ok [(0, 113, false)] w := by kernel_rfl
-- 'it ends where %s should be'
theorem Tryf.fmt2 : FmtStop.printed? ⟨#[105, 116, 32, 101, 110, 100, 115, 32, 119, 104, 101, 114, 101, 32, 37, 115, 32, 115, 104, 111, 117, 108, 100, 32, 98, 101]⟩ 1 = some [(0, 115, false)] := by kernel_rfl
theorem Tryf.fmt2r (w : World) : (FmtDoors.printed ⟨#[105, 116, 32, 101, 110, 100, 115, 32, 119, 104, 101, 114, 101, 32, 37, 115, 32, 115, 104, 111, 117, 108, 100, 32, 98, 101]⟩ 1).run Tryf.prog w = .ok [(0, 115, false)] w := by kernel_rfl
-- '%q at byte %d, where %s should be'
theorem Tryf.fmt3 : FmtStop.printed? ⟨#[37, 113, 32, 97, 116, 32, 98, 121, 116, 101, 32, 37, 100, 44, 32, 119, 104, 101, 114, 101, 32, 37, 115, 32, 115, 104, 111, 117, 108, 100, 32, 98, 101]⟩ 3 = some [(0, 113, false), (1, 100, false), (2, 115, false)] := by kernel_rfl
theorem Tryf.fmt3r (w : World) : (FmtDoors.printed ⟨#[37, 113, 32, 97, 116, 32, 98, 121, 116, 101, 32, 37, 100, 44, 32, 119, 104, 101, 114, 101, 32, 37, 115, 32, 115, 104, 111, 117, 108, 100, 32, 98, 101]⟩ 3).run Tryf.prog w = .ok [(0, 113, false), (1, 100, false), (2, 115, false)] w := by kernel_rfl

def Tryf.shape3 : List UInt8 := [5, 3, 0, 0, 0, 0, 0, 0, 0, 105, 110, 116]
theorem Tryf.op3_100 (name : String) (x : Int) (w : World) : (FmtStop.operand name false 100 false (.iface 3 (.int .i64 x))).run Tryf.prog w = .ok (Tryf.shape3, Go.Extern.Stop.digits 8 (x % 2 ^ 64).toNat) w := by kernel_rfl
def Tryf.shape9 : List UInt8 := [12, 6, 0, 0, 0, 0, 0, 0, 0, 115, 116, 114, 105, 110, 103]
theorem Tryf.op9_115 (name : String) (x : ByteArray) (w : World) : (FmtStop.operand name false 115 false (.iface 9 (.string x))).run Tryf.prog w = .ok (Tryf.shape9, FmtStop.pack x.data.toList) w := by kernel_rfl
def Tryf.shape5 : List UInt8 := [6, 5, 0, 0, 0, 0, 0, 0, 0, 117, 105, 110, 116, 56]
theorem Tryf.op5_113 (name : String) (x : Int) (w : World) : (FmtStop.operand name false 113 false (.iface 5 (.int .u8 x))).run Tryf.prog w = .ok (Tryf.shape5, Go.Extern.Stop.digits 8 (x % 2 ^ 64).toNat) w := by kernel_rfl
def Tryf.shape21 : List UInt8 := [4, 5, 0, 0, 0, 0, 0, 0, 0, 105, 110, 116, 51, 50]
theorem Tryf.op21_113 (name : String) (x : Int) (w : World) : (FmtStop.operand name false 113 false (.iface 21 (.int .i32 x))).run Tryf.prog w = .ok (Tryf.shape21, Go.Extern.Stop.digits 8 (x % 2 ^ 64).toNat) w := by kernel_rfl

end Go.Proofs.Qxb6612244aFmt
