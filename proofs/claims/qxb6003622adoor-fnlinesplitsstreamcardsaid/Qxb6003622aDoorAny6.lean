/-
  THE WALKS (any 6): makeASCIISet at the two line ends.
-/
import Derived.Test.Qxb6003622aDoorAny5
import Derived.Lib.AsciiSet
import Derived.Laws.ResultCell
import Derived.Deep.WholeRow
import Derived.Deep.LoopGhost
namespace Go.Proofs.Qxb6003622aDoor
open Go.RowKit

attribute [local go_sem] Go.wp_at_zero Go.wp_at_succ

theorem zero41 (w : World) : (zeroValue 41).run Tryd.prog w = .ok (.agg (Array.replicate 256 (.bool false))) w := by kernel_rfl
theorem info41 : (Tryd.prog.info? 41).map (·.size) = some 256 := by kernel_rfl

theorem oper_value {P : Program} {o : Oper} {a : Act} {w w' : World} {v : Value} {K : Act → World → Prop} {Q : Exit → Act → World → Prop} (h : (execOp a.eval o).run P w = .ok (.value v) w') (hn : K (a.put o.dst v) w') : Oper.wp P o a w K Q := by
  unfold Oper.wp
  rw [h]
  exact hn
theorem oper_skip {P : Program} {o : Oper} {a : Act} {w w' : World} {K : Act → World → Prop} {Q : Exit → Act → World → Prop} (h : (execOp a.eval o).run P w = .ok .skip w') (hn : K (a.put o.dst undef) w') : Oper.wp P o a w K Q := by
  unfold Oper.wp
  rw [h]
  exact hn

set_option maxRecDepth 1000000 in
set_option maxHeartbeats 1000000 in
theorem make17 (w : World) :
    Calls Tryd.prog 17 #[.string ⟨#[13, 10]⟩] w fun e w' => e = .returned (.tuple #[.agg (Lib.setCells [13, 10]), .bool true]) ∧ w' = w.alloc (.cells (Lib.setCells [13, 10]) 41) := by
  have hz := zero41
  go_enter Tryd.func17, Tryd.ntmps17
  go_wp2
  rw [← Lib.setCells_nil]
  go_loopg [4] 2 (fun g s4 wx => ∃ i : Nat, i + g = 2 ∧ s4 = .int .i64 i ∧ wx = w.alloc (.cells (Lib.setCells ([13, 10].take i)) 41))
  case atStart => exact ⟨0, by omega, rfl, rfl⟩
  case round =>
    obtain ⟨i, hig, rfl, rfl⟩ := hrel
    match i, gk, hig with
    | 0, g, hig =>
      obtain rfl : g = 2 := by omega
      have hcell := Lib.setCells_at [] 13
      go_wp2
      go_roundg 1
      case measure => omega
      case rel => exact ⟨1, by omega, rfl, rfl⟩
    | 1, g, hig =>
      obtain rfl : g = 1 := by omega
      have hcell := Lib.setCells_at [13] 10
      go_wp2
      go_roundg 0
      case measure => omega
      case rel => exact ⟨2, by omega, rfl, rfl⟩
    | i + 2, g, hig =>
      obtain rfl : i = 0 := by omega
      have hld := run_loadVar_new (P := Tryd.prog) w 41 (Lib.setCells [13, 10]) 256 4 Tryd.underlying41 (by rw [Lib.setCells_size]; exact info41)
      have hla := run_loadAt_new (P := Tryd.prog) w 41 (Lib.setCells [13, 10]) 256 4 Tryd.underlying41 (by rw [Lib.setCells_size]; exact info41)
      have hsc := run_storeCells_new (P := Tryd.prog) w 41 (Lib.setCells [13, 10]) (Lib.setCells [13, 10]) (by rw [Lib.setCells_size]; exact info41) rfl (Lib.setCells_one _)
      have HLA := Lib.hid hla
      have HLD := Lib.hid hld
      clear hla hld
      go_wp2
      refine oper_value (w' := w.alloc (.cells (Lib.setCells [13, 10]) 41)) (v := .agg (Lib.setCells [13, 10])) (by simp [execOp, Act.eval, HLA.out, Result.andThen]) ?_
      go_wp2
      refine bodyPost_ret (v := .tuple #[.agg (Lib.setCells [13, 10]), .bool true]) ?_ rfl ⟨rfl, rfl⟩
      rw [results_cell_tmp rfl]
      simp [asAddr, Result.andThen, HLD.out]

end Go.Proofs.Qxb6003622aDoor
