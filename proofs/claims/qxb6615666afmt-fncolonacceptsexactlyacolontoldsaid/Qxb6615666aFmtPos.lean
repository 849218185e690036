/-
  THE WALKS (position): bytes.LastIndexByte, textpos.At, textpos.CulpritAt. Of the numbers only that they are numbers.
-/
import Derived.Test.Qxb6615666aFmtBase
import Derived.Handy
namespace Go.Proofs.Qxb6615666aFmt
open Go.RowKit

attribute [local go_sem] Go.wp_at_zero Go.wp_at_succ

set_option maxHeartbeats 1000000 in
theorem last24 (b o c n : Nat) (l : List UInt8) (w : World) (hl : l.length = n) (hn : n ≤ 1048576) (hr : Row w b o l) :
    Calls Tryf.prog 24 #[.slice (some ⟨b, o, none⟩) n c, .int .u8 10] w fun e w' => (∃ k : Nat, k ≤ n ∧ e = .returned (.int .i64 (k - 1))) ∧ w = w' := by
  have HL := Lib.hid hl
  have HR := Lib.hid hr
  clear hl hr
  go_enter Tryf.func24, Tryf.ntmps24
  go_wp2
  go_loop [5] (fun i => ∃ k : Nat, k ≤ n ∧ i = .int .i64 ((k : Int) - 1)) (fun i => (intOf i + 1).toNat)
  case atStart => exact ⟨n, Nat.le_refl _, rfl⟩
  case round =>
    obtain ⟨k, hk, rfl⟩ := hrel
    by_cases h0 : k = 0
    · subst h0
      go_wp2
      go_ret
      exact ⟨⟨0, Nat.zero_le _, rfl⟩, rfl⟩
    · obtain ⟨m, rfl⟩ : ∃ m, k = m + 1 := ⟨k - 1, by omega⟩
      have hm : m < l.length := by rw [HL.out]; omega
      have e1 : w.cell? ⟨b, o + m, none⟩ = some (.int .u8 l[m].toNat) := HR.out.get m hm
      generalize (l[m].toNat : Int) = x at e1
      have hmi : (((m + 1 : Nat) : Int) - 1) = (m : Int) := by omega
      rw [hmi]
      have hmn : (m : Int) < n := by omega
      by_cases hx : x = 10
      · go_wp2
        go_ret
        exact ⟨⟨m + 1, by omega, by rw [hmi]; rfl⟩, rfl⟩
      · go_wp2
        go_round
        case rel => exact ⟨m, by omega, by go_num⟩
        case measure => simp [intOf]

theorem last20 (b o c n : Nat) (l : List UInt8) (w : World) (hl : l.length = n) (hn : n ≤ 1048576) (hr : Row w b o l) :
    Calls Tryf.prog 20 #[.slice (some ⟨b, o, none⟩) n c, .int .u8 10] w fun e w' => (∃ k : Nat, k ≤ n ∧ e = .returned (.int .i64 (k - 1))) ∧ w = w' := by
  have H := Lib.hid (last24 b o c n l w hl hn hr)
  clear hl hr
  go_enter Tryf.func20, Tryf.ntmps20
  go_wp2_with (go_at_call 24; go_must (refine (H.out).mono ?_; rintro e w' ⟨⟨k, hk, rfl⟩, rfl⟩))
  go_ret
  exact ⟨⟨k, hk, rfl⟩, rfl⟩

theorem count_any (b o c n b2 : Nat) (l : List UInt8) (w : World) (hl : l.length = n) (hr : Row w b o l) (h2 : w.cell? ⟨b2, 0, none⟩ = some (.int .u8 10)) :
    Calls Tryf.prog 21 #[.slice (some ⟨b, o, none⟩) n c, .slice (some ⟨b2, 0, none⟩) 1 1] w fun e w' => (∃ k : Int, e = .returned (.int .i64 k)) ∧ w = w' := by
  refine (Tryf.bytes_Count_one b o n c b2 0 1 (l.map fun x => (x.toNat : Int)) 10 w (by simpa using hl) (fun i hi => ?_) h2).mono ?_
  · have hi' : i < l.length := by omega
    rw [hr.get i hi']
    simp [List.getD, hi']
  · rintro e w' ⟨rfl, rfl⟩
    exact ⟨⟨_, rfl⟩, rfl⟩

theorem rune_any (b o c n : Nat) (l : List UInt8) (w : World) (hl : l.length = n) (hn : n ≤ 1048576) (hc : n ≤ c) (hr : Row w b o l) :
    Calls Tryf.prog 22 #[.slice (some ⟨b, o, none⟩) n c] w fun e w' => (∃ k : Int, e = .returned (.int .i64 k)) ∧ Below w.heap.size w w' := by
  have hsz : (⟨l.toArray⟩ : ByteArray).size = n := by simpa [ByteArray.size] using hl
  have := Tryf.utf8_RuneCount ⟨l.toArray⟩ b o c w (by omega) (fun j hj => by
    have hj' : j < l.length := by rw [hsz] at hj; omega
    rw [hr.get j hj']
    have hg : (⟨l.toArray⟩ : ByteArray).get! j = l[j] := getElem!_pos l.toArray j (by simpa using hj')
    rw [hg]) (by omega)
  rw [hsz] at this
  refine this.mono ?_
  rintro e w' ⟨rfl, hw⟩
  refine ⟨⟨_, rfl⟩, ?_⟩
  rcases hw with rfl | ⟨t, pos, rfl⟩
  · exact Below.refl _ _
  · exact below_new w _

theorem Row.part {w : World} {b o : Nat} {l : List UInt8} (h : Row w b o l) (k : Nat) : Row w b (o + k) (l.drop k) := by
  intro j x hj
  rw [List.getElem?_drop] at hj
  rw [Nat.add_assoc]
  exact h (k + j) x hj
theorem Row.front {w : World} {b o : Nat} {l : List UInt8} (h : Row w b o l) (k : Nat) : Row w b o (l.take k) := by
  intro j x hj
  rw [List.getElem?_take] at hj
  split at hj
  · exact h j x hj
  · cases hj

theorem frozen_kept {w w' : World} {a : Addr} (h : w.frozen? a = false) (hlt : a.block < w.heap.size) (hb : Below w.heap.size w w') : w'.frozen? a = false := by
  rw [← h]
  simp only [World.frozen?, hb.block a.block hlt]

set_option maxRecDepth 100000 in
set_option maxHeartbeats 1000000 in
theorem at_any (b o c n i : Nat) (l : List UInt8) (w : World) (hl : l.length = n) (hn : n ≤ 1048576) (hc : n ≤ c) (hi : i < n) (hr : Row w b o l) :
    Calls Tryf.prog 16 #[.slice (some ⟨b, o, none⟩) n c, .int .i64 i] w fun e w' => (∃ x y : Int, e = .returned (.agg #[.int .i64 x, .int .i64 y])) ∧ Below w.heap.size w w' := by
  have HL := Lib.hid hl
  have HR := Lib.hid hr
  have hii : (i : Int) ≤ c := by omega
  clear hl hr
  go_enter Tryf.func16, Tryf.ntmps16
  go_wp2_with (
      (go_at_call 20; go_must (refine (last20 b o c i (l.take i) _ (by rw [List.length_take, HL.out]; omega) (by omega) ((HR.out.later (below_new w _)).front i)).mono ?_; rintro e w' ⟨⟨k, hk, rfl⟩, rfl⟩)))
  go_region_with (first
    | (go_at_call 21; go_must (refine (count_any b o c i _ (l.take i) _ (by rw [List.length_take, HL.out]; omega) ((HR.out.later (by go_grown)).front i) (by go_cell)).mono ?_; rintro e w' ⟨⟨k1, rfl⟩, rfl⟩))
    | (go_at_call 22; go_must (refine (rune_any b (o + k) (c - k) (i - k) ((l.take i).drop k) _ (by rw [List.length_drop, List.length_take, HL.out]; omega) (by omega) (by omega) (((HR.out.later (by go_grown)).front i).part k)).mono ?_; rintro e w3 ⟨⟨k2, rfl⟩, hb⟩; have c0 := cell_kept (a := ⟨w.heap.size, 0, none⟩) (v := .int .i64 0) (by go_cell) hb; have c1 := cell_kept (a := ⟨w.heap.size, 1, none⟩) (v := .int .i64 0) (by go_cell) hb; have f0 := frozen_kept (a := ⟨w.heap.size, 0, none⟩) (by go_cell) (by simp; omega) hb; have f1 := frozen_kept (a := ⟨w.heap.size, 1, none⟩) (by go_cell) (by simp; omega) hb)))
  all_goals (try go_wp2)
  have g0 : ∀ v, (w3.setCell ⟨w.heap.size, 0, none⟩ v).cell? ⟨w.heap.size, 0, none⟩ = some v := fun v => World.cell?_setCell_same _ _ _ c0
  have g1 : ∀ u v, ((w3.setCell ⟨w.heap.size, 0, none⟩ u).setCell ⟨w.heap.size, 1, none⟩ v).cell? ⟨w.heap.size, 1, none⟩ = some v := fun u v => World.cell?_setCell_same (u := .int .i64 0) _ _ _ (by rw [World.cell?_setCell_other _ _ _ _ (by simp)]; exact c1)
  refine bodyPost_ret (v := .agg #[.int .i64 (IntKind.i64.wrap (k1 + 1)), .int .i64 (IntKind.i64.wrap (k2 + 1))]) (by simp [results, Tryf.results16, go_sem, g0, g1]) rfl ⟨⟨_, _, rfl⟩, ?_⟩
  have hw3 : Below w.heap.size w w3 := (show Below w.heap.size w _ by go_grown).trans (below_le hb (by simp; omega))
  exact (hw3.setCell (p := ⟨w.heap.size, 0, none⟩) (Nat.le_refl _) _).setCell (p := ⟨w.heap.size, 1, none⟩) (Nat.le_refl _) _

end Go.Proofs.Qxb6615666aFmt
