/-
  THE WALKS (list 5): zzRecordNames, the bounds.
-/
import Derived.Test.Qxb6614942aDoorLst4
namespace Go.Proofs.Qxb6614942aDoor
open Go.RowKit

attribute [local go_sem] Go.wp_at_zero Go.wp_at_succ

theorem bound15_ok (e : Int) (q : Bool) (x y : Option Addr) (n m c d : Nat) (w : World) (h : n + m ≤ 1048576) :
    Calls Tryd.prog 15 #[.int .u8 e, .bool q, .slice x n c, .slice y m d] w fun z w' => z = .returned (.bool true) ∧ w = w' := by
  go_enter Tryd.func15, Tryd.ntmps15
  go_wp2
  go_ret
  exact ⟨rfl, rfl⟩

theorem bound15_no (e : Int) (q : Bool) (x y : Option Addr) (n m c d : Nat) (w : World) (h : ¬ n + m ≤ 1048576) :
    Calls Tryd.prog 15 #[.int .u8 e, .bool q, .slice x n c, .slice y m d] w fun z w' => z = .returned (.bool false) ∧ w = w' := by
  by_cases h1 : n ≤ 1048576
  · by_cases h2 : m ≤ 1048576
    · go_enter Tryd.func15, Tryd.ntmps15
      go_wp2
      go_ret
      exact ⟨rfl, rfl⟩
    · go_enter Tryd.func15, Tryd.ntmps15
      go_wp2
      go_ret
      exact ⟨rfl, rfl⟩
  · go_enter Tryd.func15, Tryd.ntmps15
    go_wp2
    go_ret
    exact ⟨rfl, rfl⟩

theorem bound5_ok (e : Int) (q : Bool) (x y z : Option Addr) (n m k c d g : Nat) (w : World) (h : n + m + k ≤ 1048576) :
    Calls Tryd.prog 5 #[.int .u8 e, .bool q, .slice x n c, .slice y m d, .slice z k g] w fun u w' => u = .returned (.bool true) ∧ w = w' := by
  go_enter Tryd.func5, Tryd.ntmps5
  go_wp2
  go_ret
  exact ⟨rfl, rfl⟩

theorem bound5_no (e : Int) (q : Bool) (x y z : Option Addr) (n m k c d g : Nat) (w : World) (h : ¬ n + m + k ≤ 1048576) :
    Calls Tryd.prog 5 #[.int .u8 e, .bool q, .slice x n c, .slice y m d, .slice z k g] w fun u w' => u = .returned (.bool false) ∧ w = w' := by
  by_cases h1 : n ≤ 1048576
  · by_cases h2 : m ≤ 1048576
    · by_cases h3 : n + m ≤ 1048576
      · by_cases h4 : k ≤ 1048576
        · go_enter Tryd.func5, Tryd.ntmps5
          go_wp2
          go_ret
          exact ⟨rfl, rfl⟩
        · go_enter Tryd.func5, Tryd.ntmps5
          go_wp2
          go_ret
          exact ⟨rfl, rfl⟩
      · go_enter Tryd.func5, Tryd.ntmps5
        go_wp2
        go_ret
        exact ⟨rfl, rfl⟩
    · go_enter Tryd.func5, Tryd.ntmps5
      go_wp2
      go_ret
      exact ⟨rfl, rfl⟩
  · go_enter Tryd.func5, Tryd.ntmps5
    go_wp2
    go_ret
    exact ⟨rfl, rfl⟩

/-- A record that is its name. -/
theorem record_zero (x y : Option Addr) (c d : Nat) (w : World) :
    Calls Tryd.prog 14 #[.slice x 0 c, .slice y 0 d] w fun e w' => e = .returned (.bool true) ∧ ∃ q, w' = w.drewN q := by
  go_enter Tryd.func14, Tryd.ntmps14
  go_wp2_with (first | (go_at_call 13; refine (first_zero y d w).mono ?_; rintro e w' ⟨rfl, rfl⟩) | (go_at_call 12; refine (same_zero x y c d _).mono ?_; rintro e w' ⟨rfl, rfl⟩))
  go_ret
  exact ⟨rfl, 0, rfl⟩

theorem record_same (b o c g p d n : Nat) (f : Nat → Int) (w : World) (hn : n ≤ 140737488355328) (h1 : Row w b o n f) (h2 : Row w g p n f) (h3 : ∀ i, i < n → f i ≠ 10 ∧ f i ≠ 13) :
    Calls Tryd.prog 14 #[.slice (some ⟨b, o, none⟩) n c, .slice (some ⟨g, p, none⟩) n d] w fun e w' => e = .returned (.bool true) ∧ ∃ q, w' = w.drewN q := by
  have H1 := Lib.hid h1
  have H2 := Lib.hid h2
  have H3 := Lib.hid h3
  clear h1 h2 h3
  go_enter Tryd.func14, Tryd.ntmps14
  go_wp2_with (first | (go_at_call 13; refine (first_none g p d n f w hn H2.out H3.out).mono ?_; rintro e w' ⟨rfl, rfl⟩) | (go_at_call 12; refine (same_row b o c g p d n f _ hn H1.out H2.out).mono ?_; rintro e w' ⟨rfl, q, rfl⟩))
  go_ret
  exact ⟨rfl, _, rfl⟩

/-- A record that is a quoted text. -/
theorem record_quoted (b o c g p d n m k : Nat) (f : Nat → Int) (w : World) (hn : n ≤ 140737488355328) (hm : m ≤ 140737488355328) (h2 : Row w g p n f) (hk : k < n) (h3 : ∀ i, i < k → f i ≠ 10 ∧ f i ≠ 13) (h4 : f k = 10 ∨ f k = 13)
    (hlen : n + 3 ≤ m) (c0 : w.cell? ⟨b, o, none⟩ = some (.int .u8 34)) (c1 : w.cell? ⟨b, o + (m - 1), none⟩ = some (.int .u8 34)) :
    Calls Tryd.prog 14 #[.slice (some ⟨b, o, none⟩) m c, .slice (some ⟨g, p, none⟩) n d] w fun e w' => e = .returned (.bool true) ∧ ∃ q, w' = w.drewN q := by
  have H2 := Lib.hid h2
  have H3 := Lib.hid h3
  have H4 := Lib.hid h4
  clear h2 h3 h4
  go_enter Tryd.func14, Tryd.ntmps14
  go_wp2_with (first | (go_at_call 13; refine (first_at g p d n k f w hn H2.out hk H3.out H4.out).mono ?_; rintro e w' ⟨rfl, rfl⟩))
  all_goals first | (exfalso; omega) | (go_ret; exact ⟨rfl, 0, rfl⟩)

end Go.Proofs.Qxb6614942aDoor
