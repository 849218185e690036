/-
  THE WALKS (list 6): List.Write.
-/
import Derived.Test.Qxb6614942aDoorLst5
import Derived.Lib.IndexLaws
import Derived.Laws.IdiomStrings
namespace Go.Proofs.Qxb6614942aDoor
open Go.RowKit

attribute [local go_sem] Go.wp_at_zero Go.wp_at_succ

/-- A name's bytes, as the world holds them below B. -/
def Nm (B : Nat) (w : World) (v : Value) (l : List UInt8) : Prop :=
  (v = .slice none 0 0 ∧ l = []) ∨
  ∃ a c, v = .slice (some a) l.length c ∧ l.length ≤ c ∧ c ≤ 9223372036854775807 ∧ a.block < B ∧ ∀ j x, l[j]? = some x → w.cell? (a.add j) = some (.int .u8 x.toNat)

/-- Does it hold a line feed or a carriage return? -/
def broken (l : List UInt8) : Bool := decide (0 ≤ Lib.indexByte l 10) || decide (0 ≤ Lib.indexByte l 13)

/-- What List.Write writes of a name. -/
def enc (T : Lib.PrintTabs) (q : Bool) (l : List UInt8) : List UInt8 := if q = true ∧ broken l = true then Lib.bytesOf (Lib.quoteZ T ⟨l.toArray⟩) else l

theorem Nm.later {B : Nat} {w w' : World} {v : Value} {l : List UInt8} (h : Nm B w v l) (hb : Below B w w') : Nm B w' v l := by
  rcases h with h | ⟨a, c, h1, h2, h3, h4, h5⟩
  · exact Or.inl h
  · exact Or.inr ⟨a, c, h1, h2, h3, h4, fun j x hj => (hb.cell (by rw [Lib.block_add]; exact h4)).trans (h5 j x hj)⟩

theorem bytesOf_toNat (l : List UInt8) : Lib.bytesOf (l.map fun x => (x.toNat : Int)) = l := by
  unfold Lib.bytesOf
  rw [List.map_map]
  conv => rhs; rw [← List.map_id l]
  apply List.map_congr_left
  intro x _
  simp

theorem Nm.index {B : Nat} {w : World} {v : Value} {l : List UInt8} (h : Nm B w v l) (c : Nat) :
    Calls Tryd.prog 18 #[v, .int .u8 c] w fun e w' => e = .returned (.int .i64 (Lib.indexByte l c.toUInt8)) ∧ w' = w := by
  rcases h with ⟨rfl, rfl⟩ | ⟨a, cp, rfl, h2, h3, h4, h5⟩
  · exact Tryd.bytes_IndexByte_nil c w
  · have := Tryd.bytes_IndexByte_at a l.length cp (l.map fun x => (x.toNat : Int)) c w (by simp) (fun i hi => by
      rw [h5 i l[i] (by simp [hi])]
      simp [List.getD, hi])
    rw [bytesOf_toNat] at this
    simpa using this

theorem Nm.string {B : Nat} {w : World} {v : Value} {l : List UInt8} (h : Nm B w v l) : (convert 22 9 v).run Tryd.prog w = .ok (.string ⟨l.toArray⟩) w := by
  rcases h with ⟨rfl, rfl⟩ | ⟨a, cp, rfl, h2, h3, h4, h5⟩
  · exact run_convert_bytes_nil w 22 5 Tryd.underlying22 Tryd.underlying5 0 0 9 Tryd.underlying9
  · exact run_convert_bytes_back w 22 9 5 a cp l Tryd.underlying22 Tryd.underlying5 Tryd.underlying9 (fun j hj => h5 j l[j] (by simp [hj]))

theorem Nm.write {KP : Option (Nat × Obj)} {B bb bw bf : Nat} {out : List Value} {w : World} {v : Value} {l : List UInt8} (h : Nm B w v l) (hh : Holds KP B bb bw bf out w) (hlim : out.length + l.length ≤ 140737488355328) :
    Calls Tryd.prog 21 #[.pointer (some ⟨bw, 0, none⟩), v] w fun e w' => e = .returned (.tuple #[.int .i64 l.length, .nilIface]) ∧ Holds KP B bb bw bf (out ++ Lib.byteCells l) w' ∧ Below B w w' := by
  rcases h with ⟨rfl, rfl⟩ | ⟨a, cp, rfl, h2, h3, h4, h5⟩
  · have := write_nil KP B bb bw bf out w hh
    simpa [Lib.byteCells] using this
  · refine write_some KP B bb bw bf out (Lib.byteCells l) a l.length cp w hh (Lib.byteCells_length l) h4 h2 h3 (fun j v hj => ?_) (Lib.byteCells_one l) hlim
    obtain ⟨x, hx, rfl⟩ := byteCells_get l j v hj
    exact h5 j x hx

set_option maxHeartbeats 1000000 in
theorem listWrite_plain (KP : Option (Nat × Obj)) (B bb bw bf : Nat) (out : List Value) (e : Int) (q : Bool) (v : Value) (l : List UInt8) (w : World) (h : Holds KP B bb bw bf out w) (hv : Nm B w v l) (hq : ¬ (q = true ∧ broken l = true))
    (hlim : out.length + l.length + 1 ≤ 140737488355328) :
    Calls Tryd.prog 9 #[.agg #[.int .u8 e, .bool q], .pointer (some ⟨bw, 0, none⟩), v] w fun z w' => z = .returned .nilIface ∧ (∃ K, Holds K B bb bw bf (out ++ Lib.byteCells l ++ [.int .u8 e]) w') ∧ Below B w w' := by
  have H := Lib.hid (h.box (.cells #[.int .u8 e, .bool q] 26))
  have hBw := h.size
  have hb1 : Below B w (w.alloc (.cells #[.int .u8 e, .bool q] 26)) := (Below.refl _ w).alloc hBw _
  have HV := Lib.hid (hv.later hb1)
  have HB1 := Lib.hid hb1
  have HL := Lib.hid hlim
  clear hv h hlim hb1
  cases q with
  | false =>
    clear hq
    go_enter Tryd.func9, Tryd.ntmps9
    go_wp2_with (first | (go_at_call 21; refine (HV.out.write H.out (by have := HL.out; omega)).mono ?_; rintro z w2 ⟨rfl, hh2, hb2⟩; have hc : w2.cell? ⟨w.heap.size, 0, none⟩ = some (.int .u8 e) := (by rw [Lib.cell_of_heap hh2.kept]; rfl); have HH := Lib.hid hh2; have HB2 := Lib.hid hb2; clear hh2 hb2) | (go_at_call 22; refine (writeByte_any _ B bb bw bf _ _ _ (by exact HH.out) (by have := HL.out; simp [Lib.byteCells_length]; omega)).mono ?_; rintro z w3 ⟨rfl, hh3, hb3⟩))
    go_ret
    exact ⟨rfl, ⟨_, hh3⟩, HB1.out.trans (HB2.out.trans hb3)⟩
  | true =>
    have hb10 : ¬ (0 ≤ Lib.indexByte l 10) := fun h => hq ⟨rfl, by simp [broken, h]⟩
    have hb13 : ¬ (0 ≤ Lib.indexByte l 13) := fun h => hq ⟨rfl, by simp [broken, h]⟩
    have i10 := Lib.hid (HV.out.index 10)
    have i13 := Lib.hid (HV.out.index 13)
    have hx10 : ((10 : Nat).toUInt8) = 10 := rfl
    have hx13 : ((13 : Nat).toUInt8) = 13 := rfl
    rw [hx10] at i10
    rw [hx13] at i13
    generalize Lib.indexByte l 10 = k10 at *
    generalize Lib.indexByte l 13 = k13 at *
    clear hq hx10 hx13
    go_enter Tryd.func9, Tryd.ntmps9
    go_wp2_with (first | (go_at_call 18; refine (i10.out).mono ?_; rintro z w1 ⟨rfl, rfl⟩) | (go_at_call 18; refine (i13.out).mono ?_; rintro z w1 ⟨rfl, rfl⟩) | (go_at_call 21; refine (HV.out.write H.out (by have := HL.out; omega)).mono ?_; rintro z w2 ⟨rfl, hh2, hb2⟩; have hc : w2.cell? ⟨w.heap.size, 0, none⟩ = some (.int .u8 e) := (by rw [Lib.cell_of_heap hh2.kept]; rfl); have HH := Lib.hid hh2; have HB2 := Lib.hid hb2; clear hh2 hb2) | (go_at_call 22; refine (writeByte_any _ B bb bw bf _ _ _ (by exact HH.out) (by have := HL.out; simp [Lib.byteCells_length]; omega)).mono ?_; rintro z w3 ⟨rfl, hh3, hb3⟩))
    go_ret
    exact ⟨rfl, ⟨_, hh3⟩, HB1.out.trans (HB2.out.trans hb3)⟩

end Go.Proofs.Qxb6614942aDoor
