/-
  THE WALKS (any 3): bytes.IndexAny at the two line ends, at most eight bytes.
-/
import Derived.Test.Qxb6003622aDoorAny2
import Derived.Test.Qxb6003622aDoorPlain
import Derived.Lib.IndexEntry
namespace Go.Proofs.Qxb6003622aDoor
open Go.RowKit

attribute [local go_sem] Go.wp_at_zero Go.wp_at_succ

/-- A line feed or a carriage return. -/
def isEnd (x : UInt8) : Bool := x == 13 || x == 10

/-- None of the first k bytes is a line's end. -/
def NoEnd (l : List UInt8) (k : Nat) : Prop := ∀ j x, j < k → l[j]? = some x → isEnd x = false

/-- The first line's end, or -1. -/
def First (l : List UInt8) (r : Int) : Prop := (r = -1 ∧ NoEnd l l.length) ∨ ∃ (k : Nat) (x : UInt8), r = k ∧ l[k]? = some x ∧ isEnd x = true ∧ NoEnd l k

theorem NoEnd.step {l : List UInt8} {k s : Nat} (h : NoEnd l k) (hs : ∀ j x, k ≤ j → j < k + s → l[j]? = some x → isEnd x = false) : NoEnd l (k + s) := by
  intro j x hj hx
  by_cases hjk : j < k
  · exact h j x hjk hx
  · exact hs j x (by omega) hj hx

theorem call20 (args : Array Value) (w : World) : (callFunc 20 args).run Tryd.prog w = ((Extern.BytealgIndex.index args).run Tryd.prog w).andThen fun v w' => .ok (.value v) w' :=
  run_callFunc_extern Tryd.func20 (by kernel_rfl) (by kernel_rfl) (by kernel_rfl) (by kernel_rfl) args w

theorem decode19 (b o c n : Nat) (l : List UInt8) (w : World) (hT : Lib.Utf8Tabs 1 2 w) (hl : l.length = n) (hr : Row w b o l) :
    Calls Tryd.prog 19 #[.slice (some ⟨b, o, none⟩) n c] w fun e w' => e = .returned (.tuple #[.int .i32 (Lib.decodeGo ⟨l.toArray⟩).1, .int .i64 (Lib.decodeGo ⟨l.toArray⟩).2]) ∧ Below w.heap.size w w' := by
  have hsz : (⟨l.toArray⟩ : ByteArray).size = n := by rw [size_list]; exact hl
  have := Tryd.utf8_DecodeRune ⟨l.toArray⟩ b o c w hT (fun j hj => by
    have hj' : j < l.length := by rw [hsz] at hj; omega
    rw [hr.get j hj', get_list l j hj'])
  rw [hsz] at this
  exact this

theorem encode_ne (R : Int) (hv : Utf8.valid R = true) (h : 128 ≤ R) : Utf8.encode R ≠ ⟨#[13, 10]⟩ := by
  intro he
  obtain ⟨h1, h2, h3⟩ := encode_facts R hv h
  rw [he] at h3
  have := h3 (by decide)
  revert this
  decide

end Go.Proofs.Qxb6003622aDoor
