/-
  THE WALKS (errors): scan.NotUTF8, textpos.CulpritAt, parser.errorf.
-/
import Derived.Test.Qxb6615666aFmtPos
import Derived.Test.Qxb6615666aFmtFacts
namespace Go.Proofs.Qxb6615666aFmt
open Go.RowKit Go.Extern.Stop Go.Stop Go.Extern

attribute [local go_sem] Go.wp_at_zero Go.wp_at_succ Tryf.call14 Tryf.guard Tryf.fm1 Tryf.fm1r Tryf.fm2 Tryf.fm2r Tryf.fm3 Tryf.fm3r Tryf.op9_113 Tryf.op9_115 Tryf.op5_88 Tryf.act9_113 Tryf.act9_115 Tryf.act5_88

set_option maxRecDepth 100000 in
set_option maxHeartbeats 1000000 in
theorem notUTF8_any (F : Interp) (b o c n i : Nat) (x : Int) (w : World) (hF : F.answers w.tape) (hi : i < n) (hx : w.cell? ⟨b, o + i, none⟩ = some (.int .u8 x)) :
    Calls Tryf.prog 19 #[.slice (some ⟨b, o, none⟩) n c, .int .i64 i] w fun e w' => ∃ (p : Nat) (t : ByteArray), e = .returned (.pointer (some ⟨p, 0, none⟩)) ∧ w.heap.size ≤ p ∧ w'.cell? ⟨p, 0, none⟩ = some (.int .i64 i) ∧ w'.cell? ⟨p, 2, none⟩ = some (.string t) ∧ Below w.heap.size w w' := by
  have hF' := answers_open hF
  have hii : (i : Int) < n := by omega
  go_enter Tryf.func19, Tryf.ntmps19
  go_wp2
  apply rows_value Tryf.nextTurns
  case hr =>
    go_simp
    exact ⟨rfl, rfl⟩
  case h =>
    go_wp2
    go_ret
    refine ⟨w.heap.size + 1, FmtStop.textOf (F "fmt.Sprintf" [[98, 121, 116, 101, 32, 48, 120, 37, 48, 50, 88, 32, 105, 115, 32, 110, 111, 116, 32, 85, 84, 70, 45, 56], Tryf.shape5, digits 8 (x % 18446744073709551616).toNat] 0), rfl, by omega, ?_, ?_, ?_⟩
    · go_cell
    · go_cell
    · go_grown

theorem block_kept {w w' : World} {k : Nat} {o : Obj} (h : w.heap[k]? = some o) (hb : Below w.heap.size w w') : w'.heap[k]? = some o := by
  rw [hb.block k (Lib.lt_of_heap h)]; exact h

theorem cells4 {w : World} {k : Nat} {v0 v1 v2 v3 : Value} {t : TypeId} (h : w.heap[k]? = some (.cells #[v0, v1, v2, v3] t (0, 0))) :
    w.cell? ⟨k, 0, none⟩ = some v0 ∧ w.cell? ⟨k, 1, none⟩ = some v1 ∧ w.cell? ⟨k, 2, none⟩ = some v2 ∧ w.cell? ⟨k, 3, none⟩ = some v3 ∧ w.frozen? ⟨k, 0, none⟩ = false ∧ w.frozen? ⟨k, 1, none⟩ = false ∧ w.frozen? ⟨k, 2, none⟩ = false ∧ w.frozen? ⟨k, 3, none⟩ = false :=
  ⟨by rw [Lib.cell_of_heap h]; rfl, by rw [Lib.cell_of_heap h]; rfl, by rw [Lib.cell_of_heap h]; rfl, by rw [Lib.cell_of_heap h]; rfl, Lib.frozen_of_heap h 0, Lib.frozen_of_heap h 1, Lib.frozen_of_heap h 2, Lib.frozen_of_heap h 3⟩

set_option maxRecDepth 100000 in
set_option maxHeartbeats 1000000 in
theorem culprit_any (b o c n i : Nat) (l : List UInt8) (m : ByteArray) (w : World) (hl : l.length = n) (hn : n ≤ 1048576) (hc : n ≤ c) (hi : i < n) (hr : Row w b o l) :
    Calls Tryf.prog 13 #[.slice (some ⟨b, o, none⟩) n c, .int .i64 i, .string m] w fun e w' => (∃ x y : Int, e = .returned (.agg #[.int .i64 i, .int .i64 x, .int .i64 y, .string m])) ∧ Below w.heap.size w w' := by
  have HL := Lib.hid hl
  have HR := Lib.hid hr
  clear hl hr
  go_enter Tryf.func13, Tryf.ntmps13
  go_wp2_with (go_at_call 16; go_must (
    refine (at_any b o c n i l _ HL.out hn hc hi (HR.out.later (by go_grown))).mono ?_;
    rintro e w3 ⟨⟨x, y, rfl⟩, hb⟩;
    obtain ⟨c0, c1, c2, c3, f0, f1, f2, f3⟩ := cells4 (block_kept (heap_alloc_new w _) hb);
    have HB := Lib.hid hb;
    clear hb))
  refine bodyPost_ret (v := .agg #[.int .i64 i, .int .i64 x, .int .i64 y, .string m]) (by simp [results, Tryf.results13, go_sem, c0, c1, c2, c3]) rfl ⟨⟨_, _, rfl⟩, ?_⟩
  have hw3 : Below w.heap.size w w3 := (below_new w _).trans (below_le HB.out (by simp))
  exact (((hw3.setCell (p := ⟨w.heap.size, 0, none⟩) (Nat.le_refl _) _).setCell (p := ⟨w.heap.size, 1, none⟩) (Nat.le_refl _) _).setCell (p := ⟨w.heap.size, 2, none⟩) (Nat.le_refl _) _).setCell (p := ⟨w.heap.size, 3, none⟩) (Nat.le_refl _) _

end Go.Proofs.Qxb6615666aFmt
