/-
  THE WALKS (list 8): what the laws' own walks ask.
-/
import Derived.Test.Qxb6614942aDoorLst7
import Derived.Test.Qxb6614942aDoorPlain
namespace Go.Proofs.Qxb6614942aDoor
open Go.RowKit

attribute [local go_sem] Go.wp_at_zero Go.wp_at_succ

/-- A slice of bytes, as the world holds it below B. -/
def At (B : Nat) (w : World) (v : Value) (l : List UInt8) : Prop :=
  (v = .slice none 0 0 ∧ l = []) ∨
  ∃ b o c, v = .slice (some ⟨b, o, none⟩) l.length c ∧ l.length ≤ c ∧ c ≤ 9223372036854775807 ∧ b < B ∧ ∀ j x, l[j]? = some x → w.cell? ⟨b, o + j, none⟩ = some (.int .u8 x.toNat)

theorem add_row (b o j : Nat) : (⟨b, o, none⟩ : Addr).add j = ⟨b, o + j, none⟩ := by simp [Addr.add]

theorem At.nm {B : Nat} {w : World} {v : Value} {l : List UInt8} (h : At B w v l) : Nm B w v l := by
  rcases h with h | ⟨b, o, c, h1, h2, h3, h4, h5⟩
  · exact Or.inl h
  · exact Or.inr ⟨⟨b, o, none⟩, c, h1, h2, h3, h4, fun j x hj => by rw [add_row]; exact h5 j x hj⟩

theorem At.later {B : Nat} {w w' : World} {v : Value} {l : List UInt8} (h : At B w v l) (hb : Below B w w') : At B w' v l := by
  rcases h with h | ⟨b, o, c, h1, h2, h3, h4, h5⟩
  · exact Or.inl h
  · exact Or.inr ⟨b, o, c, h1, h2, h3, h4, fun j x hj => (hb.cell h4).trans (h5 j x hj)⟩

theorem At.le {B B' : Nat} {w : World} {v : Value} {l : List UInt8} (h : At B w v l) (hB : B ≤ B') : At B' w v l := by
  rcases h with h | ⟨b, o, c, h1, h2, h3, h4, h5⟩
  · exact Or.inl h
  · exact Or.inr ⟨b, o, c, h1, h2, h3, by omega, h5⟩

theorem At.form {B : Nat} {w : World} {v : Value} {l : List UInt8} (h : At B w v l) : ∃ x c, v = .slice x l.length c := by
  rcases h with ⟨rfl, rfl⟩ | ⟨b, o, c, h1, h2⟩
  · exact ⟨none, 0, rfl⟩
  · exact ⟨_, _, h1⟩

/-- What a row of bytes reads as. -/
def rd (l : List UInt8) (i : Nat) : Int := ((l.getD i 0).toNat : Int)

theorem rd_get {l : List UInt8} {i : Nat} {x : UInt8} (h : l[i]? = some x) : rd l i = x.toNat := by
  unfold rd; rw [List.getD_eq_getElem?_getD, h]; rfl

theorem row_of {w : World} {b o : Nat} {l : List UInt8} (h : ∀ j x, l[j]? = some x → w.cell? ⟨b, o + j, none⟩ = some (.int .u8 x.toNat)) : Row w b o l.length (rd l) := by
  intro i hi
  have e : l[i]? = some l[i] := by simp [hi]
  rw [h i l[i] e, rd_get e]

/-- The copy of a slice. -/
theorem clone_any (B n : Nat) (v : Value) (l : List UInt8) (w : World) (h : At B w v l) (hn : l.length = n) (hl : n ≤ 1048576) :
    Calls Tryd.prog 6 #[v] w fun e w' => ∃ x c, e = .returned (.slice x n c) ∧ At w'.heap.size w' (.slice x n c) l ∧ w'.ownsRow w.heap.size 5 1 (.slice x n c) (Lib.byteCells l).length (Lib.byteCells l) ∧ Below w.heap.size w w' := by
  subst hn
  rcases h with ⟨rfl, rfl⟩ | ⟨b, o, c, rfl, h2, h3, h4, h5⟩
  · refine (clone_nil w).mono ?_
    rintro e w' ⟨rfl, rfl⟩
    exact ⟨none, 0, rfl, Or.inl ⟨rfl, rfl⟩, ⟨by simp [Lib.byteCells], Or.inl ⟨rfl, rfl⟩⟩, Below.refl _ _⟩
  · refine (clone_some ⟨b, o, none⟩ l.length c l w rfl hl ?_).mono ?_
    · intro j v hj
      obtain ⟨x, hx, rfl⟩ := byteCells_get l j v hj
      rw [add_row]
      exact h5 j x hx
    · rintro e w' ⟨rfl, hc, hs, hb⟩
      have hbl := Lib.byteCells_length l
      refine ⟨_, _, rfl, Or.inr ⟨w.heap.size, 0, l.length, rfl, Nat.le_refl _, by omega, by omega, fun j x hj => ?_⟩, ⟨by simp, Or.inr ⟨w.heap.size, l.length, (Lib.byteCells l).toArray, by rw [hbl], Nat.le_refl _, hc, by omega, by unfold maxLen; omega, by simp [hbl], by simp [hbl, List.take_of_length_le]⟩⟩, hb⟩
      rw [Lib.cell_of_heap hc]
      have hjl := (List.getElem?_eq_some_iff.1 hj).1
      have hjx := (List.getElem?_eq_some_iff.1 hj).2
      simp [Lib.byteCells, hjl, hjx]

/-- A row that reads as a slice does. -/
theorem same_at (B g o cap : Nat) (x : Option Addr) (c n : Nat) (l : List UInt8) (w : World) (hn : l.length = n) (hm : n ≤ 140737488355328) (h : At B w (.slice x n c) l) (hr : Row w g o n (rd l)) :
    Calls Tryd.prog 12 #[.slice (some ⟨g, o, none⟩) n cap, .slice x n c] w fun e w' => e = .returned (.bool true) ∧ ∃ q, w' = w.drewN q := by
  subst hn
  rcases h with ⟨h0, rfl⟩ | ⟨b, o, c', h1, h2, h3, h4, h5⟩
  · refine (same_zero _ x cap c w).mono ?_
    rintro e w' ⟨rfl, rfl⟩
    exact ⟨rfl, 0, rfl⟩
  · obtain ⟨rfl, -, rfl⟩ := Value.slice.inj h1
    exact same_row g _ cap b o c l.length (rd l) w hm hr (row_of h5)

/-- What the sink hands back, as a row. -/
theorem out_row {B : Nat} {v : Value} {w : World} {L : List UInt8} (h : w.ownsRow B 5 1 v (Lib.byteCells L).length (Lib.byteCells L)) (h0 : L ≠ []) :
    ∃ g cap, v = .slice (some ⟨g, 0, none⟩) L.length cap ∧ L.length ≤ cap ∧ cap ≤ maxLen ∧ Row w g 0 L.length (rd L) := by
  have hbl := Lib.byteCells_length L
  rcases h.2 with ⟨_, hz⟩ | ⟨g, cap, cur, rfl, hBg, hg, hnc, hcm, hcs, htk⟩
  · rw [hbl] at hz
    exact absurd (List.eq_nil_of_length_eq_zero hz) h0
  · rw [hbl] at hnc htk ⊢
    refine ⟨g, cap, rfl, hnc, hcm, ?_⟩
    apply row_of
    intro j x hj
    have := Lib.cells_of_row hg L.length j (.int .u8 x.toNat) (by
      rw [Nat.mul_one] at htk
      rw [htk]
      simp [Lib.byteCells, hj])
    rw [add_row, Nat.zero_add] at this
    rw [Nat.zero_add]
    exact this

theorem Row.part {w : World} {b o n : Nat} {f : Nat → Int} (h : Row w b o n f) (k m : Nat) (hk : k + m ≤ n) (g : Nat → Int) (hg : ∀ i, i < m → g i = f (k + i)) : Row w b (o + k) m g := by
  intro i hi
  rw [hg i hi, Nat.add_assoc]
  exact h (k + i) (by omega)

end Go.Proofs.Qxb6614942aDoor
