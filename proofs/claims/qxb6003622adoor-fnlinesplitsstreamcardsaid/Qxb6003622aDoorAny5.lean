/-
  THE WALKS (any 5): makeASCIISet at the two line ends; contains.
-/
import Derived.Test.Qxb6003622aDoorAny4
namespace Go.Proofs.Qxb6003622aDoor
open Go.RowKit

attribute [local go_sem] Go.wp_at_zero Go.wp_at_succ

theorem contains18 (p : Nat) (x : Nat) (v : Bool) (w : World) (hx : x < 256) (hv : w.cell? ⟨p, x, none⟩ = some (.bool v)) :
    Calls Tryd.prog 18 #[.pointer (some ⟨p, 0, none⟩), .int .u8 x] w fun e w' => e = .returned (.bool v) ∧ w = w' := by
  go_enter Tryd.func18, Tryd.ntmps18
  go_wp2
  go_ret
  exact ⟨rfl, rfl⟩

end Go.Proofs.Qxb6003622aDoor
