/-
  THE WALKS (any 8): bytes.IndexAny at the two line ends, whatever the slice.
-/
import Derived.Test.Qxb6003622aDoorAny7
namespace Go.Proofs.Qxb6003622aDoor
open Go.RowKit

theorem First.same {l : List UInt8} {r r' : Int} (h : First l r) (h' : First l r') : r = r' := by
  rcases h with ⟨rfl, hn⟩ | ⟨k, x, rfl, hx, he, hn⟩ <;> rcases h' with ⟨rfl, hn'⟩ | ⟨k', x', rfl, hx', he', hn'⟩
  · rfl
  · have := hn k' x' (List.getElem?_eq_some_iff.1 hx').1 hx'
    rw [he'] at this
    cases this
  · have := hn' k x (List.getElem?_eq_some_iff.1 hx).1 hx
    rw [he] at this
    cases this
  · rcases Nat.lt_trichotomy k k' with h | h | h
    · have := hn' k x h hx
      rw [he] at this
      cases this
    · rw [h]
    · have := hn k' x' h hx'
      rw [he'] at this
      cases this

theorem first_ex (l : List UInt8) : ∃ r, First l r := by
  suffices H : ∀ m, m ≤ l.length → NoEnd l m ∨ ∃ (k : Nat) (x : UInt8), l[k]? = some x ∧ isEnd x = true ∧ NoEnd l k by
    rcases H l.length (Nat.le_refl _) with h | ⟨k, x, h1, h2, h3⟩
    · exact ⟨-1, Or.inl ⟨rfl, h⟩⟩
    · exact ⟨k, Or.inr ⟨k, x, rfl, h1, h2, h3⟩⟩
  intro m
  induction m with
  | zero => exact fun _ => Or.inl fun j x hj => absurd hj (Nat.not_lt_zero _)
  | succ m ih =>
    intro hm
    rcases ih (by omega) with h | h
    · cases he : isEnd (l[m]'(by omega)) with
      | true => exact Or.inr ⟨m, _, by simp, he, h⟩
      | false =>
        refine Or.inl (h.step (s := 1) fun j x h1 h2 hx => ?_)
        obtain rfl : j = m := by omega
        obtain ⟨h3, h4⟩ := List.getElem?_eq_some_iff.1 hx
        rw [← h4]
        exact he
    · exact Or.inr h

theorem any_all (x : Option Addr) (n c : Nat) (l : List UInt8) (m : Int) (w : World) (hT : Lib.Utf8Tabs 1 2 w) (hm : w.cell? ⟨0, 0, none⟩ = some (.int .i64 m)) (hl : l.length = n) (hn : n ≤ 1048576) (hc : n ≤ c) (hr : 0 < n → ∃ b o, x = some ⟨b, o, none⟩ ∧ Row w b o l) :
    Calls Tryd.prog 13 #[.slice x n c, .string ⟨#[13, 10]⟩] w fun e w' => (∃ r, e = .returned (.int .i64 r) ∧ First l r) ∧ Below w.heap.size w w' := by
  by_cases h0 : n = 0
  · subst h0
    refine (any_zero x c w).mono ?_
    rintro e w' ⟨rfl, rfl⟩
    exact ⟨⟨_, rfl, Or.inl ⟨rfl, fun j y hj => by omega⟩⟩, Below.refl _ _⟩
  · obtain ⟨b, o, rfl, hrw⟩ := hr (by omega)
    clear hr
    by_cases h1 : n = 1
    · obtain ⟨y, rfl⟩ := List.length_eq_one_iff.1 (hl.trans h1)
      have hcell := hrw.get 0 (by simp)
      simp only [Nat.add_zero, List.getElem_cons_zero] at hcell
      subst h1
      by_cases h128 : y.toNat < 128
      · by_cases he : isEnd y = true
        · have he' : y = 13 ∨ y = 10 := by simpa [isEnd] using he
          refine (any_one_low b o c y.toNat _ w hcell (by omega) (by omega) (ends_14 y) (by rcases he' with h | h <;> simp [h])).mono ?_
          rintro e w' ⟨rfl, rfl⟩
          exact ⟨⟨_, rfl, Or.inr ⟨0, y, rfl, rfl, he, fun j z hj => absurd hj (Nat.not_lt_zero _)⟩⟩, Below.refl _ _⟩
        · have he' : ¬ (y = 13 ∨ y = 10) := by simpa [isEnd] using he
          refine (any_one_not b o c y.toNat _ w hcell (by omega) (by omega) (ends_14 y) (by rw [if_neg (fun h => he' (Or.inl h)), if_neg (fun h => he' (Or.inr h))]; omega)).mono ?_
          rintro e w' ⟨rfl, rfl⟩
          refine ⟨⟨_, rfl, Or.inl ⟨rfl, fun j z hj hz => ?_⟩⟩, Below.refl _ _⟩
          obtain rfl : j = 0 := by simpa using hj
          cases hz
          simpa using he
      · refine (any_one_high b o c y.toNat w hcell (by omega) (by have := UInt8.toNat_lt y; omega)).mono ?_
        rintro e w' ⟨rfl, hb⟩
        refine ⟨⟨_, rfl, Or.inl ⟨rfl, fun j z hj hz => ?_⟩⟩, hb⟩
        obtain rfl : j = 0 := by simpa using hj
        cases hz
        have n1 : y ≠ 13 := by rintro rfl; revert h128; decide
        have n2 : y ≠ 10 := by rintro rfl; revert h128; decide
        simp [isEnd, n1, n2]
    · by_cases h8 : n ≤ 8
      · exact any_short b o c n l m w hT hm hl (by omega) h8 hc hrw
      · exact any_long b o c n l w hl (by omega) hn hrw

/-- The same, the answer known. -/
theorem any_is (x : Option Addr) (n c : Nat) (l : List UInt8) (m r : Int) (w : World) (hT : Lib.Utf8Tabs 1 2 w) (hm : w.cell? ⟨0, 0, none⟩ = some (.int .i64 m)) (hl : l.length = n) (hn : n ≤ 1048576) (hc : n ≤ c) (hr : 0 < n → ∃ b o, x = some ⟨b, o, none⟩ ∧ Row w b o l) (hF : First l r) :
    Calls Tryd.prog 13 #[.slice x n c, .string ⟨#[13, 10]⟩] w fun e w' => e = .returned (.int .i64 r) ∧ Below w.heap.size w w' := by
  refine (any_all x n c l m w hT hm hl hn hc hr).mono ?_
  rintro e w' ⟨⟨r', rfl, hF'⟩, hb⟩
  rw [hF'.same hF]
  exact ⟨rfl, hb⟩

end Go.Proofs.Qxb6003622aDoor
