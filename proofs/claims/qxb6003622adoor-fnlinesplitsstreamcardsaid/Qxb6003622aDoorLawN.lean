/-
  THE WALKS (law at nil).
-/
import Derived.Test.Qxb6003622aDoorLaw0
namespace Go.Proofs.Qxb6003622aDoor
open Go.RowKit

attribute [local go_sem] Go.wp_at_zero Go.wp_at_succ

set_option maxRecDepth 100000 in
set_option maxHeartbeats 2000000 in
theorem line_nil (q : Nat) (w : World) (hq : Par w q (.slice none 0 0) 0) :
    Calls Tryd.prog 12 #[.pointer (some ⟨q, 0, none⟩), .bool true] w fun e w' => e = .returned (.tuple #[.slice none 0 0, .bool false]) ∧ ∃ w1, Below w.heap.size w w1 ∧ w' = w1.setCell ⟨q, 3, none⟩ (.int .i64 0) := by
  have HQ := Lib.hid hq
  obtain ⟨c0, c2, c3, f2, f3⟩ := hq
  clear f2 f3
  go_enter Tryd.func12, Tryd.ntmps12
  go_wp2
  go_quiet (fail)
  go_wp2_with (go_at_call 13; go_must (
    refine (any_zero _ _ _).mono ?_;
    rintro e w1 ⟨rfl, hb1⟩;
    have B1 := Lib.hid (show Below w.heap.size w w1 by rw [← hb1]; exact drewN_below w);
    have c3' := cell_kept c3 B1.out;
    have f3' := frozen_kept HQ.out.c3 HQ.out.f3 B1.out;
    clear hb1))
  go_ret2
  exact ⟨rfl, w1, B1.out, rfl⟩

set_option maxRecDepth 100000 in
set_option maxHeartbeats 2000000 in
theorem zz_nil (w : World) :
    Calls Tryd.prog 7 #[.slice none 0 0, .int .i64 0, .int .i64 0, .int .i64 0, .bool true] w fun e w' => e = .returned (.tuple #[.slice none 0 0, .bool false, .int .i64 0, .int .i64 0]) ∧ Below w.heap.size w w' := by
  have hb := below_new w (.cells (parCells (.slice none 0 0) 0) 33)
  have HP := Lib.hid (par_new w (.slice none 0 0) 0)
  have HC := Lib.hid (line_nil w.heap.size (w.alloc (.cells (parCells (.slice none 0 0) 0) 33)) HP.out)
  unfold parCells at hb HP HC
  go_enter Tryd.func7, Tryd.ntmps7
  go_wp2_with (go_at_call 12; go_must (
    refine (HC.out).mono ?_;
    rintro e w2 ⟨rfl, w1, hb1, hw2⟩;
    have c2 : w2.cell? ⟨w.heap.size, 2, none⟩ = some (.int .i64 0) := by rw [hw2, World.cell?_setCell_other _ _ _ _ (by simp)]; exact cell_kept HP.out.c2 hb1;
    have c3 : w2.cell? ⟨w.heap.size, 3, none⟩ = some (.int .i64 0) := by rw [hw2]; exact World.cell?_setCell_same _ _ _ (u := .int .i64 0) (cell_kept HP.out.c3 hb1);
    have B2 := Lib.hid (show Below w.heap.size w w2 by rw [hw2]; exact (hb.trans (below_le hb1 hb.size)).setCell (p := ⟨w.heap.size, 3, none⟩) (Nat.le_refl _) _);
    clear hb1 hw2))
  go_quiet (fail)
  go_wp2
  refine bodyPost_ret (v := .tuple #[.slice none 0 0, .bool false, .int .i64 0, .int .i64 0]) (by simp [results, Tryd.results7, go_sem]) rfl ⟨rfl, B2.out.trans (drewN_below w2)⟩

set_option maxRecDepth 100000 in
set_option maxHeartbeats 2000000 in
theorem law_nil (w : World) : Calls Tryd.prog 4 #[.slice none 0 0] w fun e w' => e = .returned (.bool true) ∧ Below w.heap.size w w' := by
  have HB := Lib.hid (bound_yes none 0 0 w (by omega))
  have HC := Lib.hid (clone_nil w)
  have HZ := Lib.hid (zz_nil w)
  have hnil : ∀ W, (binOp .eql 22 (.slice none 0 0) (.slice none 0 0)).run Tryd.prog W = .ok (.bool true) W := fun W => Lib.run_eql_slice_nil_nil W _ _ Tryd.underlying22
  go_enter Tryd.func4, Tryd.ntmps4
  go_wp2_with (first
    | (go_at_call 10; go_must (
        refine (HB.out).mono ?_;
        rintro e w' ⟨rfl, rfl⟩))
    | (go_at_call 6; go_must (
        refine (HC.out).mono ?_;
        rintro e w' ⟨rfl, rfl⟩)))
  go_loop [7, 5, 6] (fun i j k => i = .int .i64 0 ∧ j = .int .i64 0 ∧ k = .int .i64 0) (fun _ _ _ => 0)
  case atStart => exact ⟨rfl, rfl, rfl⟩
  case round =>
    obtain ⟨rfl, rfl, rfl⟩ := hrel
    go_wp2
    go_loop [8, 9, 10, 11] (fun i j k h => i = .int .i64 0 ∧ j = .int .i64 0 ∧ k = .int .i64 0 ∧ h = .int .i64 0) (fun _ _ _ _ => 0)
    case atStart => exact ⟨rfl, rfl, rfl, rfl⟩
    case round =>
      obtain ⟨rfl, rfl, rfl, rfl⟩ := hrel
      go_wp2_with (go_at_call 7; go_must (
        refine (HZ.out).mono ?_;
        rintro e w' ⟨rfl, hb⟩))
      go_ret
      exact ⟨rfl, hb⟩

end Go.Proofs.Qxb6003622aDoor
