/-
  THE CLOSED FACTS for the walks over fmt's stopped fronts (fmt.errorf: function 14; fmt.Sprintf: function 16) in this seat's program, after the make of the guide's CheckFmt.lean and LabelFmt.lean. Each is proved by the kernel's own evaluation. The walks take them as local rules.
-/
import Derived.Test.Qxb6614566aFmtProg
import Derived.Stop.CallBack
import Derived.Stop.IfaceNil
import GoSem.ClaimData
import Derived.KernelRfl
namespace Go.Proofs.Qxb6614566aFmt
open Go.Extern.Stop Go.Stop Go.Extern

theorem Tryf.call14 (args : Array Value) (w : World) : (callFunc 14 args).run Tryf.prog w = ((FmtStop.errorf #[9, 33] #[24] args).run Tryf.prog w).andThen fun v w' => .ok (.value v) w' :=
  run_callFunc_extern Tryf.func14 (by kernel_rfl) (by kernel_rfl) (by kernel_rfl) (by kernel_rfl) args w
theorem Tryf.call16 (args : Array Value) (w : World) : (callFunc 16 args).run Tryf.prog w = ((FmtStop.sprintf #[9, 33] #[9] args).run Tryf.prog w).andThen fun v w' => .ok (.value v) w' :=
  run_callFunc_extern Tryf.func16 (by kernel_rfl) (by kernel_rfl) (by kernel_rfl) (by kernel_rfl) args w
theorem Tryf.guard (name : String) (w : World) : (FmtStop.guard name).run Tryf.prog w = .ok () w := by kernel_rfl

-- 'invalid package name %q: more than two segments'
theorem Tryf.fm1 : FmtStop.printed? ⟨#[105, 110, 118, 97, 108, 105, 100, 32, 112, 97, 99, 107, 97, 103, 101, 32, 110, 97, 109, 101, 32, 37, 113, 58, 32, 109, 111, 114, 101, 32, 116, 104, 97, 110, 32, 116, 119, 111, 32, 115, 101, 103, 109, 101, 110, 116, 115]⟩ 1 = some [(0, 113, false)] := by kernel_rfl
theorem Tryf.fm1r (w : World) : (FmtDoors.printed ⟨#[105, 110, 118, 97, 108, 105, 100, 32, 112, 97, 99, 107, 97, 103, 101, 32, 110, 97, 109, 101, 32, 37, 113, 58, 32, 109, 111, 114, 101, 32, 116, 104, 97, 110, 32, 116, 119, 111, 32, 115, 101, 103, 109, 101, 110, 116, 115]⟩ 1).run Tryf.prog w = .ok [(0, 113, false)] w := by kernel_rfl
theorem Tryf.fm1z : FmtStop.printed? ⟨#[105, 110, 118, 97, 108, 105, 100, 32, 112, 97, 99, 107, 97, 103, 101, 32, 110, 97, 109, 101, 32, 37, 113, 58, 32, 109, 111, 114, 101, 32, 116, 104, 97, 110, 32, 116, 119, 111, 32, 115, 101, 103, 109, 101, 110, 116, 115]⟩ 0 = some [] := by kernel_rfl
theorem Tryf.fm1zr (w : World) : (FmtDoors.printed ⟨#[105, 110, 118, 97, 108, 105, 100, 32, 112, 97, 99, 107, 97, 103, 101, 32, 110, 97, 109, 101, 32, 37, 113, 58, 32, 109, 111, 114, 101, 32, 116, 104, 97, 110, 32, 116, 119, 111, 32, 115, 101, 103, 109, 101, 110, 116, 115]⟩ 0).run Tryf.prog w = .ok [] w := by kernel_rfl
-- 'invalid package name %q: %s'
theorem Tryf.fm2 : FmtStop.printed? ⟨#[105, 110, 118, 97, 108, 105, 100, 32, 112, 97, 99, 107, 97, 103, 101, 32, 110, 97, 109, 101, 32, 37, 113, 58, 32, 37, 115]⟩ 2 = some [(0, 113, false), (1, 115, false)] := by kernel_rfl
theorem Tryf.fm2r (w : World) : (FmtDoors.printed ⟨#[105, 110, 118, 97, 108, 105, 100, 32, 112, 97, 99, 107, 97, 103, 101, 32, 110, 97, 109, 101, 32, 37, 113, 58, 32, 37, 115]⟩ 2).run Tryf.prog w = .ok [(0, 113, false), (1, 115, false)] w := by kernel_rfl
theorem Tryf.fm2z : FmtStop.printed? ⟨#[105, 110, 118, 97, 108, 105, 100, 32, 112, 97, 99, 107, 97, 103, 101, 32, 110, 97, 109, 101, 32, 37, 113, 58, 32, 37, 115]⟩ 0 = some [] := by kernel_rfl
theorem Tryf.fm2zr (w : World) : (FmtDoors.printed ⟨#[105, 110, 118, 97, 108, 105, 100, 32, 112, 97, 99, 107, 97, 103, 101, 32, 110, 97, 109, 101, 32, 37, 113, 58, 32, 37, 115]⟩ 0).run Tryf.prog w = .ok [] w := by kernel_rfl
-- 'segment %q begins with a hyphen'
theorem Tryf.fm3 : FmtStop.printed? ⟨#[115, 101, 103, 109, 101, 110, 116, 32, 37, 113, 32, 98, 101, 103, 105, 110, 115, 32, 119, 105, 116, 104, 32, 97, 32, 104, 121, 112, 104, 101, 110]⟩ 1 = some [(0, 113, false)] := by kernel_rfl
theorem Tryf.fm3r (w : World) : (FmtDoors.printed ⟨#[115, 101, 103, 109, 101, 110, 116, 32, 37, 113, 32, 98, 101, 103, 105, 110, 115, 32, 119, 105, 116, 104, 32, 97, 32, 104, 121, 112, 104, 101, 110]⟩ 1).run Tryf.prog w = .ok [(0, 113, false)] w := by kernel_rfl
theorem Tryf.fm3z : FmtStop.printed? ⟨#[115, 101, 103, 109, 101, 110, 116, 32, 37, 113, 32, 98, 101, 103, 105, 110, 115, 32, 119, 105, 116, 104, 32, 97, 32, 104, 121, 112, 104, 101, 110]⟩ 0 = some [] := by kernel_rfl
theorem Tryf.fm3zr (w : World) : (FmtDoors.printed ⟨#[115, 101, 103, 109, 101, 110, 116, 32, 37, 113, 32, 98, 101, 103, 105, 110, 115, 32, 119, 105, 116, 104, 32, 97, 32, 104, 121, 112, 104, 101, 110]⟩ 0).run Tryf.prog w = .ok [] w := by kernel_rfl
-- 'segment %q holds a character other than a lowercase ASCII letter, digit or hyphen'
theorem Tryf.fm4 : FmtStop.printed? ⟨#[115, 101, 103, 109, 101, 110, 116, 32, 37, 113, 32, 104, 111, 108, 100, 115, 32, 97, 32, 99, 104, 97, 114, 97, 99, 116, 101, 114, 32, 111, 116, 104, 101, 114, 32, 116, 104, 97, 110, 32, 97, 32, 108, 111, 119, 101, 114, 99, 97, 115, 101, 32, 65, 83, 67, 73, 73, 32, 108, 101, 116, 116, 101, 114, 44, 32, 100, 105, 103, 105, 116, 32, 111, 114, 32, 104, 121, 112, 104, 101, 110]⟩ 1 = some [(0, 113, false)] := by kernel_rfl
theorem Tryf.fm4r (w : World) : (FmtDoors.printed ⟨#[115, 101, 103, 109, 101, 110, 116, 32, 37, 113, 32, 104, 111, 108, 100, 115, 32, 97, 32, 99, 104, 97, 114, 97, 99, 116, 101, 114, 32, 111, 116, 104, 101, 114, 32, 116, 104, 97, 110, 32, 97, 32, 108, 111, 119, 101, 114, 99, 97, 115, 101, 32, 65, 83, 67, 73, 73, 32, 108, 101, 116, 116, 101, 114, 44, 32, 100, 105, 103, 105, 116, 32, 111, 114, 32, 104, 121, 112, 104, 101, 110]⟩ 1).run Tryf.prog w = .ok [(0, 113, false)] w := by kernel_rfl
theorem Tryf.fm4z : FmtStop.printed? ⟨#[115, 101, 103, 109, 101, 110, 116, 32, 37, 113, 32, 104, 111, 108, 100, 115, 32, 97, 32, 99, 104, 97, 114, 97, 99, 116, 101, 114, 32, 111, 116, 104, 101, 114, 32, 116, 104, 97, 110, 32, 97, 32, 108, 111, 119, 101, 114, 99, 97, 115, 101, 32, 65, 83, 67, 73, 73, 32, 108, 101, 116, 116, 101, 114, 44, 32, 100, 105, 103, 105, 116, 32, 111, 114, 32, 104, 121, 112, 104, 101, 110]⟩ 0 = some [] := by kernel_rfl
theorem Tryf.fm4zr (w : World) : (FmtDoors.printed ⟨#[115, 101, 103, 109, 101, 110, 116, 32, 37, 113, 32, 104, 111, 108, 100, 115, 32, 97, 32, 99, 104, 97, 114, 97, 99, 116, 101, 114, 32, 111, 116, 104, 101, 114, 32, 116, 104, 97, 110, 32, 97, 32, 108, 111, 119, 101, 114, 99, 97, 115, 101, 32, 65, 83, 67, 73, 73, 32, 108, 101, 116, 116, 101, 114, 44, 32, 100, 105, 103, 105, 116, 32, 111, 114, 32, 104, 121, 112, 104, 101, 110]⟩ 0).run Tryf.prog w = .ok [] w := by kernel_rfl
-- 'invalid id %q: want 1 to 128 characters'
theorem Tryf.fm5 : FmtStop.printed? ⟨#[105, 110, 118, 97, 108, 105, 100, 32, 105, 100, 32, 37, 113, 58, 32, 119, 97, 110, 116, 32, 49, 32, 116, 111, 32, 49, 50, 56, 32, 99, 104, 97, 114, 97, 99, 116, 101, 114, 115]⟩ 1 = some [(0, 113, false)] := by kernel_rfl
theorem Tryf.fm5r (w : World) : (FmtDoors.printed ⟨#[105, 110, 118, 97, 108, 105, 100, 32, 105, 100, 32, 37, 113, 58, 32, 119, 97, 110, 116, 32, 49, 32, 116, 111, 32, 49, 50, 56, 32, 99, 104, 97, 114, 97, 99, 116, 101, 114, 115]⟩ 1).run Tryf.prog w = .ok [(0, 113, false)] w := by kernel_rfl
theorem Tryf.fm5z : FmtStop.printed? ⟨#[105, 110, 118, 97, 108, 105, 100, 32, 105, 100, 32, 37, 113, 58, 32, 119, 97, 110, 116, 32, 49, 32, 116, 111, 32, 49, 50, 56, 32, 99, 104, 97, 114, 97, 99, 116, 101, 114, 115]⟩ 0 = some [] := by kernel_rfl
theorem Tryf.fm5zr (w : World) : (FmtDoors.printed ⟨#[105, 110, 118, 97, 108, 105, 100, 32, 105, 100, 32, 37, 113, 58, 32, 119, 97, 110, 116, 32, 49, 32, 116, 111, 32, 49, 50, 56, 32, 99, 104, 97, 114, 97, 99, 116, 101, 114, 115]⟩ 0).run Tryf.prog w = .ok [] w := by kernel_rfl
theorem Tryf.fm6 : FmtStop.printed? ⟨#[105, 110, 118, 97, 108, 105, 100, 32, 105, 100, 32, 37, 113, 58, 32, 105, 116, 32, 104, 111, 108, 100, 115, 32, 97, 32, 99, 104, 97, 114, 97, 99, 116, 101, 114, 32, 111, 116, 104, 101, 114, 32, 116, 104, 97, 110, 32, 97, 110, 32, 65, 83, 67, 73, 73, 32, 108, 101, 116, 116, 101, 114, 44, 32, 97, 32, 100, 105, 103, 105, 116, 32, 111, 114, 32, 111, 110, 101, 32, 111, 102, 32, 34, 58, 46, 95, 45, 34]⟩ 1 = some [(0, 113, false)] := by kernel_rfl
theorem Tryf.fm6r (w : World) : (FmtDoors.printed ⟨#[105, 110, 118, 97, 108, 105, 100, 32, 105, 100, 32, 37, 113, 58, 32, 105, 116, 32, 104, 111, 108, 100, 115, 32, 97, 32, 99, 104, 97, 114, 97, 99, 116, 101, 114, 32, 111, 116, 104, 101, 114, 32, 116, 104, 97, 110, 32, 97, 110, 32, 65, 83, 67, 73, 73, 32, 108, 101, 116, 116, 101, 114, 44, 32, 97, 32, 100, 105, 103, 105, 116, 32, 111, 114, 32, 111, 110, 101, 32, 111, 102, 32, 34, 58, 46, 95, 45, 34]⟩ 1).run Tryf.prog w = .ok [(0, 113, false)] w := by kernel_rfl
theorem Tryf.fm6z : FmtStop.printed? ⟨#[105, 110, 118, 97, 108, 105, 100, 32, 105, 100, 32, 37, 113, 58, 32, 105, 116, 32, 104, 111, 108, 100, 115, 32, 97, 32, 99, 104, 97, 114, 97, 99, 116, 101, 114, 32, 111, 116, 104, 101, 114, 32, 116, 104, 97, 110, 32, 97, 110, 32, 65, 83, 67, 73, 73, 32, 108, 101, 116, 116, 101, 114, 44, 32, 97, 32, 100, 105, 103, 105, 116, 32, 111, 114, 32, 111, 110, 101, 32, 111, 102, 32, 34, 58, 46, 95, 45, 34]⟩ 0 = some [] := by kernel_rfl
theorem Tryf.fm6zr (w : World) : (FmtDoors.printed ⟨#[105, 110, 118, 97, 108, 105, 100, 32, 105, 100, 32, 37, 113, 58, 32, 105, 116, 32, 104, 111, 108, 100, 115, 32, 97, 32, 99, 104, 97, 114, 97, 99, 116, 101, 114, 32, 111, 116, 104, 101, 114, 32, 116, 104, 97, 110, 32, 97, 110, 32, 65, 83, 67, 73, 73, 32, 108, 101, 116, 116, 101, 114, 44, 32, 97, 32, 100, 105, 103, 105, 116, 32, 111, 114, 32, 111, 110, 101, 32, 111, 102, 32, 34, 58, 46, 95, 45, 34]⟩ 0).run Tryf.prog w = .ok [] w := by kernel_rfl

def Tryf.shape9 : List UInt8 := [12, 6, 0, 0, 0, 0, 0, 0, 0, 115, 116, 114, 105, 110, 103]
theorem Tryf.op9_113 (name : String) (x : ByteArray) (w : World) : (FmtStop.operand name false 113 false (.iface 9 (.string x))).run Tryf.prog w = .ok (Tryf.shape9, FmtStop.pack x.data.toList) w := by kernel_rfl
theorem Tryf.op9_113w (name : String) (x : ByteArray) (w : World) : (FmtStop.operand name true 113 false (.iface 9 (.string x))).run Tryf.prog w = .ok (Tryf.shape9, FmtStop.pack x.data.toList) w := by kernel_rfl
theorem Tryf.op9_115w (name : String) (x : ByteArray) (w : World) : (FmtStop.operand name true 115 false (.iface 9 (.string x))).run Tryf.prog w = .ok (Tryf.shape9, FmtStop.pack x.data.toList) w := by kernel_rfl
theorem Tryf.strict9 (name : String) (x : ByteArray) (w : World) : (FmtStop.strict name (.iface 9 (.string x))).run Tryf.prog w = .ok (Tryf.shape9, FmtStop.pack x.data.toList) w := by kernel_rfl
theorem Tryf.ptr39 (w : World) : (FmtStop.ptrTo "errors.errorString").run Tryf.prog w = .ok 39 w := by kernel_rfl
theorem Tryf.elem39 (w : World) : (elemOf 39).run Tryf.prog w = .ok 41 w := by kernel_rfl
theorem Tryf.isError39 (w : World) : (FmtDoors.textMethod 39 "Error").run Tryf.prog w = .ok true w := by kernel_rfl
theorem Tryf.ptr34 (w : World) : (FmtStop.ptrTo "fmt.wrapError").run Tryf.prog w = .ok 34 w := by kernel_rfl
theorem Tryf.elem34 (w : World) : (elemOf 34).run Tryf.prog w = .ok 70 w := by kernel_rfl
theorem Tryf.isError34 (w : World) : (FmtDoors.textMethod 34 "Error").run Tryf.prog w = .ok true w := by kernel_rfl
end Go.Proofs.Qxb6614566aFmt
