/-
  THE CLOSED FACTS for the walks over fmt.Sprintf (function 14) in this seat's program. Each is proved by the kernel's own evaluation. The walks take them as local rules.
-/
import Derived.Test.Qxb6615666aFmtProg
import Derived.Stop.CallBack
import Derived.Stop.IfaceNil
import GoSem.ClaimData
import Derived.KernelRfl
namespace Go.Proofs.Qxb6615666aFmt
open Go.Extern.Stop Go.Stop Go.Extern

theorem Tryf.call14 (args : Array Value) (w : World) : (callFunc 14 args).run Tryf.prog w = (FmtCalls.sprintf #[9, 60] #[9] args).run Tryf.prog w :=
  run_callFunc_next Tryf.func14 (by kernel_rfl) (by kernel_rfl) (by kernel_rfl) args w
theorem Tryf.nextTurns : Extern.next FmtCalls.turnsRow = some (FmtCalls.begun #[] #[]) := by kernel_rfl
theorem Tryf.guard (name : String) (w : World) : (FmtStop.guard name).run Tryf.prog w = .ok () w := by kernel_rfl
theorem Tryf.fm1 : FmtStop.printed? ⟨#[119, 97, 110, 116, 32, 37, 115, 44, 32, 103, 111, 116, 32, 37, 113]⟩ 2 = some [(0, 115, false), (1, 113, false)] := by kernel_rfl
theorem Tryf.fm1r (w : World) : (FmtDoors.printed ⟨#[119, 97, 110, 116, 32, 37, 115, 44, 32, 103, 111, 116, 32, 37, 113]⟩ 2).run Tryf.prog w = .ok [(0, 115, false), (1, 113, false)] w := by kernel_rfl
theorem Tryf.fm2 : FmtStop.printed? ⟨#[37, 115]⟩ 1 = some [(0, 115, false)] := by kernel_rfl
theorem Tryf.fm2r (w : World) : (FmtDoors.printed ⟨#[37, 115]⟩ 1).run Tryf.prog w = .ok [(0, 115, false)] w := by kernel_rfl
theorem Tryf.fm3 : FmtStop.printed? ⟨#[98, 121, 116, 101, 32, 48, 120, 37, 48, 50, 88, 32, 105, 115, 32, 110, 111, 116, 32, 85, 84, 70, 45, 56]⟩ 1 = some [(0, 88, false)] := by kernel_rfl
theorem Tryf.fm3r (w : World) : (FmtDoors.printed ⟨#[98, 121, 116, 101, 32, 48, 120, 37, 48, 50, 88, 32, 105, 115, 32, 110, 111, 116, 32, 85, 84, 70, 45, 56]⟩ 1).run Tryf.prog w = .ok [(0, 88, false)] w := by kernel_rfl

def Tryf.shape9 : List UInt8 := [12, 6, 0, 0, 0, 0, 0, 0, 0, 115, 116, 114, 105, 110, 103]
theorem Tryf.op9_113 (name : String) (x : ByteArray) (w : World) : (FmtStop.operand name false 113 false (.iface 9 (.string x))).run Tryf.prog w = .ok (Tryf.shape9, FmtStop.pack x.data.toList) w := by kernel_rfl
theorem Tryf.op9_115 (name : String) (x : ByteArray) (w : World) : (FmtStop.operand name false 115 false (.iface 9 (.string x))).run Tryf.prog w = .ok (Tryf.shape9, FmtStop.pack x.data.toList) w := by kernel_rfl
theorem Tryf.act9_113 (name : String) (x : Value) (w : World) : (FmtCalls.act name false 113 false (.iface 9 x)).run Tryf.prog w = .ok (.closed false) w := by kernel_rfl
theorem Tryf.act9_115 (name : String) (x : Value) (w : World) : (FmtCalls.act name false 115 false (.iface 9 x)).run Tryf.prog w = .ok (.closed false) w := by kernel_rfl
def Tryf.shape5 : List UInt8 := [6, 5, 0, 0, 0, 0, 0, 0, 0, 117, 105, 110, 116, 56]
theorem Tryf.act5_88 (name : String) (x : Value) (w : World) : (FmtCalls.act name false 88 false (.iface 5 x)).run Tryf.prog w = .ok (.closed false) w := by kernel_rfl
theorem Tryf.op5_88 (name : String) (x : Int) (w : World) : (FmtStop.operand name false 88 false (.iface 5 (.int .u8 x))).run Tryf.prog w = .ok (Tryf.shape5, Go.Extern.Stop.digits 8 (x % 2 ^ 64).toNat) w := by kernel_rfl
end Go.Proofs.Qxb6615666aFmt
