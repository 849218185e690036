/-
  THE WALKS (list 4): zzSameBytes, zzFirstBreak, zzRecordNames, the bounds.
-/
import Derived.Test.Qxb6614942aDoorLst3
namespace Go.Proofs.Qxb6614942aDoor
open Go.RowKit

attribute [local go_sem] Go.wp_at_zero Go.wp_at_succ

/-- The cells at a place read as the numbers f. -/
def Row (w : World) (b o n : Nat) (f : Nat → Int) : Prop := ∀ i, i < n → w.cell? ⟨b, o + i, none⟩ = some (.int .u8 (f i))

theorem Row.drewN {w : World} {b o n : Nat} {f : Nat → Int} (h : Row w b o n f) (q : Nat) : Row (w.drewN q) b o n f := fun i hi => h i hi

theorem same_zero (x y : Option Addr) (c d : Nat) (w : World) :
    Calls Tryd.prog 12 #[.slice x 0 c, .slice y 0 d] w fun e w' => e = .returned (.bool true) ∧ w' = w := by
  go_enter Tryd.func12, Tryd.ntmps12
  go_wp2
  go_loop [5] (fun i => i = .int .i64 0) (fun _ => 0)
  case atStart => rfl
  case round =>
    subst hrel
    go_wp2
    go_ret
    exact ⟨rfl, rfl⟩

set_option maxHeartbeats 1000000 in
theorem same_row (b o c g p d n : Nat) (f : Nat → Int) (w : World) (hn : n ≤ 140737488355328) (h1 : Row w b o n f) (h2 : Row w g p n f) :
    Calls Tryd.prog 12 #[.slice (some ⟨b, o, none⟩) n c, .slice (some ⟨g, p, none⟩) n d] w fun e w' => e = .returned (.bool true) ∧ ∃ q, w' = w.drewN q := by
  go_enter Tryd.func12, Tryd.ntmps12
  go_wp2
  go_loopw [5] (fun i wr => ∃ k q : Nat, k ≤ n ∧ i = .int .i64 k ∧ wr = w.drewN q) (fun i _ => n - (intOf i).toNat)
  case atStart => exact ⟨0, 0, Nat.zero_le _, rfl, rfl⟩
  case round =>
    obtain ⟨k, q, hk, rfl, rfl⟩ := hrel
    by_cases hlt : k < n
    · have e1 : ∀ j, (w.drewN j).cell? ⟨b, o + k, none⟩ = some (.int .u8 (f k)) := fun j => h1 k hlt
      have e2 : ∀ j, (w.drewN j).cell? ⟨g, p + k, none⟩ = some (.int .u8 (f k)) := fun j => h2 k hlt
      have e1' : w.cell? ⟨b, o + k, none⟩ = some (.int .u8 (f k)) := h1 k hlt
      have e2' : w.cell? ⟨g, p + k, none⟩ = some (.int .u8 (f k)) := h2 k hlt
      go_wp2
      go_quiet (fail)
      go_wp2
      go_roundw
      case rel => exact ⟨k + 1, _, by omega, by go_num, rfl⟩
      case measure => simp [intOf]; omega
    · go_wp2
      go_ret
      exact ⟨rfl, _, rfl⟩

theorem first_zero (x : Option Addr) (c : Nat) (w : World) :
    Calls Tryd.prog 13 #[.slice x 0 c] w fun e w' => e = .returned (.int .i64 (-1)) ∧ w' = w := by
  go_enter Tryd.func13, Tryd.ntmps13
  go_wp2
  go_loop [3] (fun i => i = .int .i64 0) (fun _ => 0)
  case atStart => rfl
  case round =>
    subst hrel
    go_wp2
    go_ret
    exact ⟨rfl, rfl⟩

set_option maxHeartbeats 1000000 in
theorem first_none (b o c n : Nat) (f : Nat → Int) (w : World) (hn : n ≤ 140737488355328) (h1 : Row w b o n f) (h2 : ∀ i, i < n → f i ≠ 10 ∧ f i ≠ 13) :
    Calls Tryd.prog 13 #[.slice (some ⟨b, o, none⟩) n c] w fun e w' => e = .returned (.int .i64 (-1)) ∧ w' = w := by
  go_enter Tryd.func13, Tryd.ntmps13
  go_wp2
  go_loop [3] (fun i => ∃ k : Nat, k ≤ n ∧ i = .int .i64 k) (fun i => n - (intOf i).toNat)
  case atStart => exact ⟨0, Nat.zero_le _, rfl⟩
  case round =>
    obtain ⟨k, hk, rfl⟩ := hrel
    by_cases hlt : k < n
    · have e1' : w.cell? ⟨b, o + k, none⟩ = some (.int .u8 (f k)) := h1 k hlt
      obtain ⟨t1, t2⟩ := h2 k hlt
      go_wp2
      go_round
      case rel => exact ⟨k + 1, by omega, by go_num⟩
      case measure => simp [intOf]; omega
    · go_wp2
      go_ret
      exact ⟨rfl, rfl⟩

set_option maxHeartbeats 1000000 in
theorem first_at (b o c n m : Nat) (f : Nat → Int) (w : World) (hn : n ≤ 140737488355328) (h1 : Row w b o n f) (hm : m < n) (h2 : ∀ i, i < m → f i ≠ 10 ∧ f i ≠ 13) (h3 : f m = 10 ∨ f m = 13) :
    Calls Tryd.prog 13 #[.slice (some ⟨b, o, none⟩) n c] w fun e w' => e = .returned (.int .i64 m) ∧ w' = w := by
  have H3 := Lib.hid h3
  clear h3
  go_enter Tryd.func13, Tryd.ntmps13
  go_wp2
  go_loop [3] (fun i => ∃ k : Nat, k ≤ m ∧ i = .int .i64 k) (fun i => n - (intOf i).toNat)
  case atStart => exact ⟨0, Nat.zero_le _, rfl⟩
  case round =>
    obtain ⟨k, hk, rfl⟩ := hrel
    have e1' : w.cell? ⟨b, o + k, none⟩ = some (.int .u8 (f k)) := h1 k (by omega)
    by_cases hlt : k < m
    · obtain ⟨t1, t2⟩ := h2 k hlt
      go_wp2
      go_round
      case rel => exact ⟨k + 1, by omega, by go_num⟩
      case measure => simp [intOf]; omega
    · have hkm : k = m := by omega
      subst hkm
      rcases H3.out with h3 | h3
      · go_wp2
        go_ret
        exact ⟨rfl, rfl⟩
      · have h4 : f k ≠ 10 := by omega
        go_wp2
        go_ret
        exact ⟨rfl, rfl⟩

end Go.Proofs.Qxb6614942aDoor
