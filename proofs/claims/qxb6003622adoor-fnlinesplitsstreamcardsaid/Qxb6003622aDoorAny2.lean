/-
  THE WALKS (any 2): bytes.IndexAny at the two line ends: no byte, one byte.
-/
import Derived.Test.Qxb6003622aDoorAny
import Derived.Handy
import Derived.Laws.RangeString
namespace Go.Proofs.Qxb6003622aDoor
open Go.RowKit

attribute [local go_sem] Go.wp_at_zero Go.wp_at_succ ends_14

set_option maxRecDepth 100000 in
set_option maxHeartbeats 1000000 in
theorem any_zero (x : Option Addr) (c : Nat) (w : World) :
    Calls Tryd.prog 13 #[.slice x 0 c, .string ⟨#[13, 10]⟩] w fun e w' => e = .returned (.int .i64 (-1)) ∧ w = w' := by
  go_enter Tryd.func13, Tryd.ntmps13
  go_wp2
  go_loop [12] (fun i => i = .int .i64 0) (fun _ => 0)
  case atStart => rfl
  case round =>
    subst hrel
    go_wp2
    go_ret
    exact ⟨rfl, rfl⟩

set_option maxRecDepth 100000 in
set_option maxHeartbeats 1000000 in
theorem any_one_low (b o c : Nat) (x r : Int) (w : World) (hx : w.cell? ⟨b, o, none⟩ = some (.int .u8 x)) (h0 : 0 ≤ x) (h : x < 128) (hc : ∀ W, (callFunc 14 #[.string ⟨#[13, 10]⟩, .int .u8 x]).run Tryd.prog W = .ok (.value (.int .i64 r)) W) (hr : 0 ≤ r) :
    Calls Tryd.prog 13 #[.slice (some ⟨b, o, none⟩) 1 c, .string ⟨#[13, 10]⟩] w fun e w' => e = .returned (.int .i64 0) ∧ w = w' := by
  go_enter Tryd.func13, Tryd.ntmps13
  go_wp2
  go_ret
  exact ⟨rfl, rfl⟩

set_option maxRecDepth 100000 in
set_option maxHeartbeats 1000000 in
theorem any_one_not (b o c : Nat) (x r : Int) (w : World) (hx : w.cell? ⟨b, o, none⟩ = some (.int .u8 x)) (h0 : 0 ≤ x) (h : x < 128) (hc : ∀ W, (callFunc 14 #[.string ⟨#[13, 10]⟩, .int .u8 x]).run Tryd.prog W = .ok (.value (.int .i64 r)) W) (hr : r < 0) :
    Calls Tryd.prog 13 #[.slice (some ⟨b, o, none⟩) 1 c, .string ⟨#[13, 10]⟩] w fun e w' => e = .returned (.int .i64 (-1)) ∧ w = w' := by
  go_enter Tryd.func13, Tryd.ntmps13
  go_wp2
  go_ret
  exact ⟨rfl, rfl⟩

theorem next0 (w : World) : (Instr.next (.pointer (some ⟨w.heap.size, 0, none⟩)) true 0).run Tryd.prog (w.iter ⟨#[13, 10]⟩ 0) = .ok (.tuple #[.bool true, .int .i64 0, .int .i32 13]) (w.iter ⟨#[13, 10]⟩ 1) := run_next_ascii (P := Tryd.prog) w ⟨#[13, 10]⟩ 0 0 (by decide) (by decide)
theorem next1 (w : World) : (Instr.next (.pointer (some ⟨w.heap.size, 0, none⟩)) true 0).run Tryd.prog (w.iter ⟨#[13, 10]⟩ 1) = .ok (.tuple #[.bool true, .int .i64 1, .int .i32 10]) (w.iter ⟨#[13, 10]⟩ 2) := run_next_ascii (P := Tryd.prog) w ⟨#[13, 10]⟩ 1 0 (by decide) (by decide)
theorem next2 (w : World) : (Instr.next (.pointer (some ⟨w.heap.size, 0, none⟩)) true 0).run Tryd.prog (w.iter ⟨#[13, 10]⟩ 2) = .ok (.tuple #[.bool false]) (w.iter ⟨#[13, 10]⟩ 2) := run_next_end (P := Tryd.prog) w ⟨#[13, 10]⟩ 2 0 (by decide)

set_option maxRecDepth 100000 in
set_option maxHeartbeats 1000000 in
theorem any_one_high (b o c : Nat) (x : Int) (w : World) (hx : w.cell? ⟨b, o, none⟩ = some (.int .u8 x)) (h : 128 ≤ x) (h2 : x ≤ 255) :
    Calls Tryd.prog 13 #[.slice (some ⟨b, o, none⟩) 1 c, .string ⟨#[13, 10]⟩] w fun e w' => e = .returned (.int .i64 (-1)) ∧ Below w.heap.size w w' := by
  have n0 := next0 w
  have n1 := next1 w
  have n2 := next2 w
  go_enter Tryd.func13, Tryd.ntmps13
  go_wp2
  go_rounds 3
  go_ret
  exact ⟨rfl, below_new w _⟩

end Go.Proofs.Qxb6003622aDoor
