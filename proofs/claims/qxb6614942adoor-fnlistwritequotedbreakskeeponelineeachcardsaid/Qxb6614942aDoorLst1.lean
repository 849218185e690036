/-
  THE WALKS (list 1): the clone of a slice of bytes; the sink's making.
-/
import Derived.Test.Qxb6614942aDoorSnk5
import Derived.Test.Qxb6614942aDoorShelf2
namespace Go.Proofs.Qxb6614942aDoor
open Go.RowKit

attribute [local go_sem] Go.wp_at_zero Go.wp_at_succ

/-- A slice of bytes, as the world holds it. -/
def Sl (w : World) (v : Value) (l : List UInt8) : Prop :=
  (v = .slice none 0 0 ∧ l = []) ∨ (∃ a c, v = .slice (some a) 0 c ∧ l = [] ∧ c ≤ 140737488355328) ∨
  ∃ b off c, v = .slice (some ⟨b, off, none⟩) l.length c ∧ 1 ≤ l.length ∧ l.length ≤ c ∧ c ≤ 140737488355328 ∧ ∀ j x, l[j]? = some x → w.cell? ⟨b, off + j, none⟩ = some (.int .u8 x.toNat)

theorem byteCells_get (l : List UInt8) (j : Nat) (v : Value) (h : (Lib.byteCells l)[j]? = some v) : ∃ x, l[j]? = some x ∧ v = .int .u8 x.toNat := by
  unfold Lib.byteCells at h
  rw [List.getElem?_map] at h
  cases hj : l[j]? with
  | none => rw [hj] at h; cases h
  | some x => rw [hj] at h; exact ⟨x, rfl, (Option.some.inj h).symm⟩

theorem info5' : ∃ i0, Tryd.prog.info? 5 = some i0 ∧ i0.zero = some (.int .u8 0) ∧ i0.size = 1 ∧ i0.bytes = 1 := ⟨_, rfl, rfl, rfl, rfl⟩

/-- 'make([]byte, n)', as the walk asks it. -/
theorem make_bytes (n : Nat) (hn : n ≤ 1048576) : ∃ M : Array Value, M.size = n ∧ ∀ W : World, (Instr.makeSlice 22 (.int .i64 (n : Int)) (.int .i64 (n : Int))).run Tryd.prog W = .ok (.slice (some ⟨W.heap.size, 0, none⟩) n n) (W.alloc (.cells M 5)) := by
  obtain ⟨i0, hi, hz0, hz1, hz2⟩ := info5'
  refine ⟨madeCells (Value.int .u8 0).cells ((n : Int).toNat * i0.size), by rw [size_madeCells, hz1]; simp, fun W => ?_⟩
  have h := run_makeSlice (P := Tryd.prog) W 22 5 i0 (.int .u8 0) Tryd.underlying22 hi hz0 .i64 .i64 (n : Int) n (by omega) (by omega) (by rw [hz1]; simp; omega) (by rw [hz2]; omega) (by omega)
  simpa using h

theorem clone_nil (w : World) :
    Calls Tryd.prog 6 #[.slice none 0 0] w fun e w' => e = .returned (.slice none 0 0) ∧ w' = w := by
  have hnil : ∀ W, (binOp .eql 22 (.slice none 0 0) (.slice none 0 0)).run Tryd.prog W = .ok (.bool true) W := fun W => Lib.run_eql_slice_nil_nil W _ _ Tryd.underlying22
  go_enter Tryd.func6, Tryd.ntmps6
  go_wp2
  go_ret
  exact ⟨rfl, rfl⟩

set_option maxHeartbeats 1000000 in
theorem clone_some (a : Addr) (n c : Nat) (l : List UInt8) (w : World) (hl : l.length = n) (hn : n ≤ 1048576) (hsrc : ∀ j v, (Lib.byteCells l)[j]? = some v → w.cell? (a.add j) = some v) :
    Calls Tryd.prog 6 #[.slice (some a) n c] w fun e w' => e = .returned (.slice (some ⟨w.heap.size, 0, none⟩) n n) ∧ w'.heap[w.heap.size]? = some (.cells (Lib.byteCells l).toArray 5 (0, 0)) ∧ w'.heap.size = w.heap.size + 1 ∧ Below w.heap.size w w' := by
  have hnil : ∀ W, (binOp .eql 22 (.slice (some a) n c) (.slice none 0 0)).run Tryd.prog W = .ok (.bool false) W := fun W => Lib.run_eql_slice_some_nil W _ _ _ Tryd.underlying22
  obtain ⟨M, hM, hmk⟩ := make_bytes n hn
  have hbl : (Lib.byteCells l).length = n := by rw [Lib.byteCells_length]; exact hl
  have hsrc' : ∀ j v, (Lib.byteCells l)[j]? = some v → (w.alloc (.cells M 5)).cell? (a.add j) = some v := fun j v hj => cell_later ((Below.refl _ w).alloc (Nat.le_refl _) _) (hsrc j v hj)
  have hcp := run_copy_row (P := Tryd.prog) (w.alloc (.cells M 5)) 22 22 3 5 w.heap.size 0 n n a n c M 5 (Lib.byteCells l) Tryd.underlying22 info5 (heap_alloc_new w _) (by rw [hbl]; exact (Nat.min_self n).symm) hsrc' (by rw [hbl, hM]; omega) (Lib.byteCells_one l)
  have hrow : ((M.toList.take 0 ++ Lib.byteCells l ++ M.toList.drop (0 + (Lib.byteCells l).length)).toArray) = (Lib.byteCells l).toArray := by
    rw [List.take_zero, List.nil_append, List.drop_eq_nil_of_le (by rw [hbl, Array.length_toList, hM]; omega), List.append_nil]
  rw [hrow, hbl] at hcp
  have H1 := Lib.hid hM
  clear hM hrow hsrc hsrc' hbl hl
  go_enter Tryd.func6, Tryd.ntmps6
  go_wp2
  go_ret
  have hb : Below w.heap.size w ((w.alloc (.cells M 5)).setRow w.heap.size (Lib.byteCells l).toArray) := by
    have h1 : Below w.heap.size w (w.alloc (.cells M 5)) := (Below.refl _ w).alloc (Nat.le_refl _) _
    exact h1.trans ⟨rfl, rfl, rfl, by simp, fun k hk => setRow_other _ _ _ _ (by omega)⟩
  exact ⟨rfl, setRow_heap _ _ _ _ _ _ (heap_alloc_new w _), by simp, hb⟩

end Go.Proofs.Qxb6614942aDoor
