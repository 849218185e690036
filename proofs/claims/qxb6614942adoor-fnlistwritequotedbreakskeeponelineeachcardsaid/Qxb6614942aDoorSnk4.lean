/-
  THE WALKS (sink 4): (*bufio.Writer).Write of the nil slice.
-/
import Derived.Test.Qxb6614942aDoorSnk3
namespace Go.Proofs.Qxb6614942aDoor
open Go.RowKit

attribute [local go_sem] Go.wp_at_zero Go.wp_at_succ

set_option maxHeartbeats 1000000 in
set_option maxRecDepth 100000 in
theorem write_nil (KP : Option (Nat × Obj)) (B bb bw bf : Nat) (out : List Value) (w : World) (h : Holds KP B bb bw bf out w) :
    Calls Tryd.prog 21 #[.pointer (some ⟨bw, 0, none⟩), .slice none 0 0] w fun e w' => e = .returned (.tuple #[.int .i64 0, .nilIface]) ∧ Holds KP B bb bw bf out w' ∧ Below B w w' := by
  obtain ⟨gO, bs, cs, hs, hout⟩ := h
  obtain ⟨h0, h1, h2, h3, f0, f2⟩ := hs.cells
  have hl := hs.len
  have hne := hs.n3
  have hne' : bf ≠ bw := Ne.symm hne
  obtain ⟨n, hcn⟩ : ∃ n, cs.length = n := ⟨_, rfl⟩
  have E1 := Lib.hid (fun q => (hs.of_heap (w' := w.drewN q) rfl).renum hcn)
  have HO := Lib.hid hout
  rw [hcn] at h2 hl
  clear hs hcn hout
  have hd : decide (4096 - (n : Int) < 0) = false := by simp; omega
  have hcz : ∀ (d : Option Addr) (x y q : Nat), (Builtin.copy_ #[22, 22] 3 #[.slice d x y, .slice none 0 0]).run Tryd.prog (w.drewN q) = .ok (.int .i64 0) (w.drewN q) := fun d x y q => run_copy_none (w.drewN q) 22 22 3 5 d _ x y 0 0 Tryd.underlying22 info5 (by simp)
  have hi1 : (0 : Int) ≤ (n : Int) := by omega
  have hi2 : (n : Int) ≤ 4096 := by omega
  go_enter Tryd.func21, Tryd.ntmps21
  go_wp2
  go_loopg [1, 4] 1 (fun gk p nn wr => p = .slice none 0 0 ∧ nn = .int .i64 0 ∧ wr = w)
  case atStart => exact ⟨rfl, rfl, rfl⟩
  case round =>
    obtain ⟨rfl, rfl, rfl⟩ := hrel
    by_cases hn4 : n = 4096
    · subst hn4
      go_wp2_with (go_at_call 27; refine (available_any bw bf 4096 _ h1 h2 hl).mono ?_; rintro e w' ⟨rfl, nq, rfl⟩)
      go_region_held3 (fun w' => w'.cell? ⟨bw, 1, none⟩ = some (.slice (some ⟨bf, 0, none⟩) 4096 4096) ∧ w'.cell? ⟨bw, 2, none⟩ = some (.int .i64 ((4096 : Nat) : Int))) (go_keep) (fail)
      all_goals
        go_wp2
        go_ret2
        exact ⟨rfl, ⟨gO, bs, cs, (E1.out (nq + 1)).1, HO.out⟩, below_drewN' (E1.out (nq + 1)).2⟩
    · have hi3 : ¬ (4096 : Nat) = n := fun e => hn4 e.symm
      go_wp2_with (go_at_call 27; refine (available_any bw bf n _ h1 h2 hl).mono ?_; rintro e w' ⟨rfl, nq, rfl⟩)
      go_region_held3 (fun w' => w'.cell? ⟨bw, 1, none⟩ = some (.slice (some ⟨bf, 0, none⟩) 4096 4096) ∧ w'.cell? ⟨bw, 2, none⟩ = some (.int .i64 n)) (go_keep) (fail)
      all_goals
        go_wp2
        go_ret2
        exact ⟨rfl, ⟨gO, bs, cs, (E1.out (nq + 1)).1, HO.out⟩, below_drewN' (E1.out (nq + 1)).2⟩

end Go.Proofs.Qxb6614942aDoor
