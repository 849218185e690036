/-
  THE WALKS (base): rows of bytes; the copy.
-/
import Derived.Test.Qxb6003622aDoorShelf
import Derived.Lib.BufferGrow
import Derived.Lib.BufferWrite
import Derived.Lib.BufferSrc
import Derived.Lib.BufferOwn
import Derived.Lib.Hide
import Derived.Laws.IdiomCopy
import Derived.WalkKit
import Derived.WalkSpells
import Derived.WalkLawsBesides
import Derived.Deep.RegionWith
import Derived.BigCall
import Derived.BigGuard
import Derived.Deep.DrawnRows
import Derived.Deep.RegionHeld3
import Derived.Deep.QuietTactic
import Derived.BigQuiet
namespace Go.Proofs.Qxb6003622aDoor
open Go.RowKit

attribute [local go_sem] Go.wp_at_zero Go.wp_at_succ

/-- The cells at a place read as these bytes. -/
def Row (w : World) (b o : Nat) (l : List UInt8) : Prop := ∀ j x, l[j]? = some x → w.cell? ⟨b, o + j, none⟩ = some (.int .u8 x.toNat)

theorem Row.get {w : World} {b o : Nat} {l : List UInt8} (h : Row w b o l) (i : Nat) (hi : i < l.length) : w.cell? ⟨b, o + i, none⟩ = some (.int .u8 l[i].toNat) := h i l[i] (by simp [hi])

theorem lt_of_cell {w : World} {a : Addr} {v : Value} (hc : w.cell? a = some v) : a.block < w.heap.size := by
  rcases Nat.lt_or_ge a.block w.heap.size with h' | h'
  · exact h'
  · simp [World.cell?, Array.getElem?_eq_none h'] at hc

theorem cell_kept {w w' : World} {a : Addr} {v : Value} (h : w.cell? a = some v) (hb : Below w.heap.size w w') : w'.cell? a = some v := (hb.cell (lt_of_cell h)).trans h

theorem Row.later {w w' : World} {b o : Nat} {l : List UInt8} (h : Row w b o l) (hb : Below w.heap.size w w') : Row w' b o l := fun j x hj => cell_kept (h j x hj) hb

theorem below_le {B B' : Nat} {w w' : World} (h : Below B' w w') (hB : B ≤ B') : Below B w w' := ⟨h.os, h.tape, h.output, h.size, fun k hk => h.block k (by omega)⟩
theorem drewN_below {B q : Nat} (w : World) : Below B w (w.drewN q) := ⟨rfl, rfl, rfl, Nat.le_refl _, fun _ _ => rfl⟩
theorem below_new (w : World) (o : Obj) : Below w.heap.size w (w.alloc o) := (Below.refl _ w).alloc (Nat.le_refl _) o

set_option maxRecDepth 100000 in
theorem info5' : ∃ i0, Tryd.prog.info? 5 = some i0 ∧ i0.zero = some (.int .u8 0) ∧ i0.size = 1 ∧ i0.bytes = 1 := ⟨_, rfl, rfl, rfl, rfl⟩

theorem make_bytes (n : Nat) (hn : n ≤ 1048576) : ∃ M : Array Value, M.size = n ∧ ∀ W : World, (Instr.makeSlice 22 (.int .i64 (n : Int)) (.int .i64 (n : Int))).run Tryd.prog W = .ok (.slice (some ⟨W.heap.size, 0, none⟩) n n) (W.alloc (.cells M 5)) := by
  obtain ⟨i0, hi, hz0, hz1, hz2⟩ := info5'
  refine ⟨madeCells (Value.int .u8 0).cells ((n : Int).toNat * i0.size), by rw [size_madeCells, hz1]; simp, fun W => ?_⟩
  have h := run_makeSlice (P := Tryd.prog) W 22 5 i0 (.int .u8 0) Tryd.underlying22 hi hz0 .i64 .i64 (n : Int) n (by omega) (by omega) (by rw [hz1]; simp; omega) (by rw [hz2]; omega) (by omega)
  simpa using h

/-- What the copy has laid so far. -/
def Laid (w0 w : World) (n k : Nat) (l : List UInt8) : Prop :=
  ∃ X : Array Value, w.heap[w0.heap.size]? = some (.cells X 5 (0, 0)) ∧ X.size = n ∧ (∀ j x, j < k → l[j]? = some x → X[j]? = some (.int .u8 x.toNat)) ∧ Below w0.heap.size w0 w ∧ w.heap.size = w0.heap.size + 1

theorem Laid.step {w0 w : World} {n k : Nat} {l : List UInt8} (h : Laid w0 w n k l) (hk : k < n) (x : UInt8) (hx : l[k]? = some x) : Laid w0 (w.setCell ⟨w0.heap.size, k, none⟩ (.int .u8 x.toNat)) n (k + 1) l := by
  obtain ⟨X, h1, h2, h3, h4, h5⟩ := h
  refine ⟨X.setIfInBounds k (.int .u8 x.toNat), Lib.heap_setCell_same (i := k) h1 _, by simpa using h2, fun j y hj hy => ?_, h4.setCell (p := ⟨w0.heap.size, k, none⟩) (Nat.le_refl _) _, by simpa using h5⟩
  by_cases hjk : j = k
  · subst hjk
    rw [hx] at hy
    cases hy
    rw [Array.getElem?_setIfInBounds_self_of_lt (by omega)]
  · rw [Array.getElem?_setIfInBounds_ne (by omega)]
    exact h3 j y (by omega) hy

set_option maxHeartbeats 1000000 in
theorem clone_any (b o c n : Nat) (l : List UInt8) (w : World) (hl : l.length = n) (hn : n ≤ 1048576) (hr : Row w b o l) :
    Calls Tryd.prog 6 #[.slice (some ⟨b, o, none⟩) n c] w fun e w' => e = .returned (.slice (some ⟨w.heap.size, 0, none⟩) n n) ∧ Laid w w' n n l := by
  have hnil : ∀ W, (binOp .eql 22 (.slice (some ⟨b, o, none⟩) n c) (.slice none 0 0)).run Tryd.prog W = .ok (.bool false) W := fun W => Lib.run_eql_slice_some_nil W _ _ _ Tryd.underlying22
  obtain ⟨M, hM, hmk⟩ := make_bytes n hn
  have HL := Lib.hid hl
  have HR := Lib.hid hr
  have HM := Lib.hid hM
  clear hM hr hl
  go_enter Tryd.func6, Tryd.ntmps6
  go_wp2
  go_loopw [4] (fun i wr => ∃ k : Nat, k ≤ n ∧ i = .int .i64 k ∧ Hid (Laid w wr n k l)) (fun i _ => n - (intOf i).toNat)
  case atStart => exact ⟨0, Nat.zero_le _, rfl, ⟨M, heap_alloc_new w _, HM.out, fun j x hj => absurd hj (Nat.not_lt_zero _), below_new w _, by simp⟩⟩
  case round =>
    obtain ⟨k, hk, rfl, hL⟩ := hrel
    by_cases hlt : k < n
    · have hx : l[k]? = some (l[k]'(by rw [HL.out]; exact hlt)) := by simp [HL.out, hlt]
      obtain ⟨x, hx⟩ : ∃ x, l[k]? = some x := ⟨_, hx⟩
      have e1 : wr.cell? ⟨b, o + k, none⟩ = some (.int .u8 x.toNat) := by
        obtain ⟨X, h1, h2, h3, h4, h5⟩ := hL
        exact cell_kept (HR.out k x hx) h4
      have e2 : ∃ v, wr.cell? ⟨w.heap.size, k, none⟩ = some v := by
        obtain ⟨X, h1, h2, h3, h4, h5⟩ := hL
        exact ⟨X[k], by rw [Lib.cell_of_heap h1]; simp [h2, hlt]⟩
      obtain ⟨v2, e2⟩ := e2
      have e3 : wr.frozen? ⟨w.heap.size, k, none⟩ = false := by
        obtain ⟨X, h1, h2, h3, h4, h5⟩ := hL
        exact Lib.frozen_of_heap h1 k
      have HX := Lib.hid hx
      clear hx
      go_wp2
      go_roundw
      case rel => exact ⟨k + 1, by omega, by go_num, hL.out.step hlt x HX.out⟩
      case measure => simp [intOf]; omega
    · have hkn : k = n := by omega
      subst hkn
      go_wp2
      go_ret
      exact ⟨rfl, hL⟩

end Go.Proofs.Qxb6003622aDoor
