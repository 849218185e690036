/-
  THE WALKS (any 7): bytes.IndexAny at the two line ends, more than eight bytes.
-/
import Derived.Test.Qxb6003622aDoorAny6
namespace Go.Proofs.Qxb6003622aDoor
open Go.RowKit

attribute [local go_sem] Go.wp_at_zero Go.wp_at_succ

theorem set_cell (w : World) (x : UInt8) : (w.alloc (.cells (Lib.setCells [13, 10]) 41)).cell? ⟨w.heap.size, x.toNat, none⟩ = some (.bool (isEnd x)) := by
  rw [Lib.cell_of_heap (heap_alloc_new w _), Lib.setCells_at]
  rw [List.contains_cons, List.contains_cons, List.contains_nil, Bool.or_false]
  rfl

theorem should16 (n : Int) (hn : 8 < n) (w : World) : Calls Tryd.prog 16 #[.int .i64 n] w fun e w' => e = .returned (.bool true) ∧ w = w' := by
  go_enter Tryd.func16, Tryd.ntmps16
  go_wp2
  go_ret
  exact ⟨rfl, rfl⟩

set_option maxRecDepth 1000000 in
set_option maxHeartbeats 2000000 in
theorem any_long (b o c n : Nat) (l : List UInt8) (w : World) (hl : l.length = n) (hn1 : 8 < n) (hn : n ≤ 1048576) (hr : Row w b o l) :
    Calls Tryd.prog 13 #[.slice (some ⟨b, o, none⟩) n c, .string ⟨#[13, 10]⟩] w fun e w' => (∃ r, e = .returned (.int .i64 r) ∧ First l r) ∧ Below w.heap.size w w' := by
  have hz := zero41
  have HL := Lib.hid hl
  have HR := Lib.hid hr
  clear hl hr
  have i1 : ¬ (n : Int) = 1 := by omega
  have i2 : (8 : Int) < n := by omega
  have HM := Lib.hid (make17 w)
  go_enter Tryd.func13, Tryd.ntmps13
  go_wp2_with (first
    | (go_at_call 17; go_must (
        refine (HM.out).mono ?_;
        rintro e w1 ⟨rfl, hw1⟩;
        have B1 := Lib.hid (show Below w.heap.size w w1 by rw [hw1]; exact below_new w _);
        have hsc := run_storeCells_new (P := Tryd.prog) w1 41 (Array.replicate 256 (.bool false)) (Lib.setCells [13, 10]) (by rw [Lib.setCells_size]; exact info41) (by rw [Lib.setCells_size]; simp) (Lib.setCells_one _);
        clear hw1))
    | (go_at_call 16; go_must (
        refine (should16 n i2 w).mono ?_;
        rintro e w' ⟨rfl, rfl⟩)))
  have R2 := Lib.hid ((HR.out.later B1.out).later (below_new w1 (.cells (Lib.setCells [13, 10]) 41)))
  have S2 := Lib.hid (set_cell w1)
  have B2 := Lib.hid (B1.out.trans (below_le (below_new w1 (.cells (Lib.setCells [13, 10]) 41)) B1.out.size))
  clear hsc hz
  generalize w1.alloc (.cells (Lib.setCells [13, 10]) 41) = w2 at R2 S2 B2 ⊢
  go_loop [62] (fun i => ∃ k : Nat, k ≤ n ∧ i = .int .i64 k ∧ Hid (NoEnd l k)) (fun i => n - (intOf i).toNat)
  case atStart => exact ⟨0, Nat.zero_le _, rfl, fun j x hj => absurd hj (Nat.not_lt_zero _)⟩
  case round =>
    obtain ⟨k, hk, rfl, HK⟩ := hrel
    by_cases hlt : k < n
    · have hkl : k < l.length := by rw [HL.out]; exact hlt
      have e1 : w2.cell? ⟨b, o + k, none⟩ = some (.int .u8 l[k].toNat) := R2.out.get k hkl
      have hG := Lib.hid (show l[k]? = some l[k] by simp [hkl])
      generalize l[k] = x at e1 hG
      have HC := Lib.hid (contains18 w1.heap.size x.toNat (isEnd x) w2 (UInt8.toNat_lt x) (S2.out x))
      have hki : (k : Int) < n := by omega
      cases he : isEnd x with
      | true =>
        rw [he] at HC
        go_wp2_with (go_at_call 18; go_must (
          refine (HC.out).mono ?_;
          rintro e w' ⟨rfl, rfl⟩))
        go_ret
        exact ⟨⟨_, rfl, Or.inr ⟨k, x, rfl, hG.out, he, HK.out⟩⟩, B2.out⟩
      | false =>
        rw [he] at HC
        go_wp2_with (go_at_call 18; go_must (
          refine (HC.out).mono ?_;
          rintro e w' ⟨rfl, rfl⟩))
        go_round
        case rel => exact ⟨k + 1, by omega, by go_num, HK.out.step (fun j y h1 h2 hy => by
            have : j = k := by omega
            subst this
            rw [hG.out] at hy
            cases hy
            exact he)⟩
        case measure => simp [intOf]; omega
    · have hkn : k = n := by omega
      subst hkn
      go_wp2
      go_ret
      exact ⟨⟨_, rfl, Or.inl ⟨rfl, by rw [HL.out]; exact HK.out⟩⟩, B2.out⟩

end Go.Proofs.Qxb6003622aDoor
