/-
  THE WALKS (law 0): the bound, zzIsEnd, zzClone of nil; the law at nil and past the bound.
-/
import Derived.Test.Qxb6003622aDoorZZ
import Derived.Test.Qxb6003622aDoorSplit
namespace Go.Proofs.Qxb6003622aDoor
open Go.RowKit

attribute [local go_sem] Go.wp_at_zero Go.wp_at_succ

theorem bound_yes (x : Option Addr) (n c : Nat) (w : World) (hn : n ≤ 1048576) : Calls Tryd.prog 10 #[.slice x n c] w fun e w' => e = .returned (.bool true) ∧ w = w' := by
  have h : ¬ (1048576 : Int) < n := by omega
  go_enter Tryd.func10, Tryd.ntmps10
  go_wp2
  go_ret
  exact ⟨rfl, rfl⟩

theorem bound_no (x : Option Addr) (n c : Nat) (w : World) (hn : ¬ n ≤ 1048576) : Calls Tryd.prog 10 #[.slice x n c] w fun e w' => e = .returned (.bool false) ∧ w = w' := by
  have h : (1048576 : Int) < n := by omega
  go_enter Tryd.func10, Tryd.ntmps10
  go_wp2
  go_ret
  exact ⟨rfl, rfl⟩

theorem isEnd_any (x : UInt8) (w : World) : Calls Tryd.prog 11 #[.int .u8 x.toNat] w fun e w' => e = .returned (.bool (isEnd x)) ∧ w = w' := by
  have h13 : isEnd x = ((x.toNat : Int) == 13 || (x.toNat : Int) == 10) := by
    have a : (x == 13) = ((x.toNat : Int) == 13) := by
      by_cases h : x = 13
      · subst h; rfl
      · have : ¬ (x.toNat : Int) = 13 := fun h' => h (UInt8.toNat_inj.1 (by show x.toNat = 13; omega))
        rw [beq_eq_false_iff_ne.2 h, beq_eq_false_iff_ne.2 this]
    have b : (x == 10) = ((x.toNat : Int) == 10) := by
      by_cases h : x = 10
      · subst h; rfl
      · have : ¬ (x.toNat : Int) = 10 := fun h' => h (UInt8.toNat_inj.1 (by show x.toNat = 10; omega))
        rw [beq_eq_false_iff_ne.2 h, beq_eq_false_iff_ne.2 this]
    unfold isEnd
    rw [a, b]
  rw [h13]
  generalize (x.toNat : Int) = z
  go_enter Tryd.func11, Tryd.ntmps11
  by_cases h1 : z = 13
  · go_wp2
    go_ret
    exact ⟨by simp [h1], rfl⟩
  · by_cases h2 : z = 10
    · go_wp2
      go_ret
      exact ⟨by simp [h2], rfl⟩
    · go_wp2
      go_ret
      exact ⟨by simp, rfl⟩

theorem clone_nil (w : World) : Calls Tryd.prog 6 #[.slice none 0 0] w fun e w' => e = .returned (.slice none 0 0) ∧ w = w' := by
  have hnil : ∀ W, (binOp .eql 22 (.slice none 0 0) (.slice none 0 0)).run Tryd.prog W = .ok (.bool true) W := fun W => Lib.run_eql_slice_nil_nil W _ _ Tryd.underlying22
  go_enter Tryd.func6, Tryd.ntmps6
  go_wp2
  go_ret
  exact ⟨rfl, rfl⟩

set_option maxRecDepth 100000 in
theorem law_big (x : Option Addr) (n c : Nat) (w : World) (hn : ¬ n ≤ 1048576) : Calls Tryd.prog 4 #[.slice x n c] w fun e w' => e = .returned (.bool true) ∧ Below w.heap.size w w' := by
  have HB := Lib.hid (bound_no x n c w hn)
  go_enter Tryd.func4, Tryd.ntmps4
  go_wp2_with (go_at_call 10; go_must (
    refine (HB.out).mono ?_;
    rintro e w' ⟨rfl, rfl⟩))
  go_ret
  exact ⟨rfl, Below.refl _ _⟩

theorem Laid.row {w0 w : World} {n : Nat} {l : List UInt8} (h : Laid w0 w n n l) (hl : l.length = n) : Row w w0.heap.size 0 l := by
  obtain ⟨X, h1, h2, h3, h4, h5⟩ := h
  intro j x hj
  have hjl := (List.getElem?_eq_some_iff.1 hj).1
  rw [Nat.zero_add, Lib.cell_of_heap h1]
  exact h3 j x (by omega) hj
theorem Laid.below {w0 w : World} {n k : Nat} {l : List UInt8} (h : Laid w0 w n k l) : Below w0.heap.size w0 w := by
  obtain ⟨X, h1, h2, h3, h4, h5⟩ := h
  exact h4

end Go.Proofs.Qxb6003622aDoor
