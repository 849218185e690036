/-
  THE WALKS (ZZLine): the parser laid, one line taken.
-/
import Derived.Test.Qxb6003622aDoorLine
namespace Go.Proofs.Qxb6003622aDoor
open Go.RowKit

attribute [local go_sem] Go.wp_at_zero Go.wp_at_succ

/-- How long the line's end at this place is. -/
def el (l : List UInt8) (t : Nat) : Nat := if l[t]? = some 13 ∧ l[t + 1]? = some 10 then 2 else 1

theorem First.at {l : List UInt8} {pos k : Nat} (h : First (l.drop pos) k) : ∃ y, l[pos + k]? = some y ∧ isEnd y = true ∧ NoEnd (l.drop pos) k := by
  rcases h with ⟨h, _⟩ | ⟨k', x, hk, hx, he, hn⟩
  · omega
  · obtain rfl : k = k' := by omega
    rw [List.getElem?_drop] at hx
    exact ⟨x, hx, he, hn⟩

theorem line_found (q B n pos k : Nat) (l : List UInt8) (m : Int) (w : World) (hT : Lib.Utf8Tabs 1 2 w) (hm : w.cell? ⟨0, 0, none⟩ = some (.int .i64 m)) (hl : l.length = n) (hn : n ≤ 1048576) (hq : Par w q (.slice (some ⟨B, 0, none⟩) n n) pos) (hr : Row w B 0 l) (hF : First (l.drop pos) k) :
    Calls Tryd.prog 12 #[.pointer (some ⟨q, 0, none⟩), .bool true] w fun e w' => e = .returned (.tuple #[.slice (some ⟨B, pos, none⟩) k (n - pos), .bool true]) ∧ ∃ w1, Below w.heap.size w w1 ∧ w' = (w1.setCell ⟨q, 2, none⟩ (.int .i64 (pos + (k + el l (pos + k)) : Nat))).setCell ⟨q, 3, none⟩ (.int .i64 0) := by
  obtain ⟨y, hy, he, _⟩ := hF.at
  have he' : y = 13 ∨ y = 10 := by simpa [isEnd] using he
  rcases he' with rfl | rfl
  · cases hz : l[pos + k + 1]? with
    | none =>
      have hel : el l (pos + k) = 1 := by
        unfold el
        rw [if_neg (by rw [hz]; simp)]
      have h1 := (List.getElem?_eq_some_iff.1 hy).1
      have h2 := List.getElem?_eq_none_iff.1 hz
      rw [hel]
      exact line_cr_last q B n pos k l m w hT hm hl hn hq hr hF hy (by omega)
    | some z =>
      by_cases h10 : z = 10
      · subst h10
        have hel : el l (pos + k) = 2 := by
          unfold el
          rw [if_pos ⟨hy, hz⟩]
        rw [hel]
        exact line_crlf q B n pos k l m w hT hm hl hn hq hr hF hy hz
      · have hel : el l (pos + k) = 1 := by
          unfold el
          rw [if_neg (by rw [hz]; simp [h10])]
        rw [hel]
        exact line_cr q B n pos k l m w hT hm hl hn hq hr hF hy z hz h10
  · have hel : el l (pos + k) = 1 := by
      unfold el
      rw [if_neg (by rw [hy]; simp)]
    rw [hel]
    exact line_lf q B n pos k l m w hT hm hl hn hq hr hF hy

theorem line_not (q B n pos : Nat) (l : List UInt8) (m : Int) (w : World) (hT : Lib.Utf8Tabs 1 2 w) (hm : w.cell? ⟨0, 0, none⟩ = some (.int .i64 m)) (hl : l.length = n) (hn : n ≤ 1048576) (hp : pos ≤ n) (hq : Par w q (.slice (some ⟨B, 0, none⟩) n n) pos) (hr : Row w B 0 l) (hF : First (l.drop pos) (-1)) :
    Calls Tryd.prog 12 #[.pointer (some ⟨q, 0, none⟩), .bool true] w fun e w' => e = .returned (.tuple #[.slice none 0 0, .bool false]) ∧ ∃ w1, Below w.heap.size w w1 ∧ w' = w1.setCell ⟨q, 3, none⟩ (.int .i64 (n - pos : Nat)) := by
  by_cases h : pos < n
  · exact line_none q B n pos l m w hT hm hl hn h hq hr hF
  · obtain rfl : pos = n := by omega
    exact line_last q B pos w hq

/-- The parser's block as ZZLine lays it. -/
def parCells (src : Value) (pos : Nat) : Array Value := #[src, .int .i64 0, .int .i64 pos, .int .i64 0, .bool false, .string ⟨#[]⟩, .slice none 0 0]

theorem par_new (w : World) (src : Value) (pos : Nat) : Par (w.alloc (.cells (parCells src pos) 33)) w.heap.size src pos := by
  have h := heap_alloc_new w (.cells (parCells src pos) 33)
  exact ⟨by rw [Lib.cell_of_heap h]; rfl, by rw [Lib.cell_of_heap h]; rfl, by rw [Lib.cell_of_heap h]; rfl, Lib.frozen_of_heap h 2, Lib.frozen_of_heap h 3⟩

set_option maxRecDepth 100000 in
set_option maxHeartbeats 2000000 in
theorem zz_not (B n pos : Nat) (l : List UInt8) (m : Int) (w : World) (hT : Lib.Utf8Tabs 1 2 w) (hm : w.cell? ⟨0, 0, none⟩ = some (.int .i64 m)) (hl : l.length = n) (hn : n ≤ 1048576) (hp : pos ≤ n) (hr : Row w B 0 l) (hF : First (l.drop pos) (-1)) :
    Calls Tryd.prog 7 #[.slice (some ⟨B, 0, none⟩) n n, .int .i64 0, .int .i64 pos, .int .i64 0, .bool true] w fun e w' => e = .returned (.tuple #[.slice none 0 0, .bool false, .int .i64 pos, .int .i64 (n - pos : Nat)]) ∧ Below w.heap.size w w' := by
  have hb := below_new w (.cells (parCells (.slice (some ⟨B, 0, none⟩) n n) pos) 33)
  have HP := Lib.hid (par_new w (.slice (some ⟨B, 0, none⟩) n n) pos)
  have HC := Lib.hid (line_not w.heap.size B n pos l m (w.alloc (.cells (parCells (.slice (some ⟨B, 0, none⟩) n n) pos) 33)) (Utf8Tabs_below hT hb) (cell_kept hm hb) hl hn hp HP.out (hr.later hb) hF)
  clear hT hm hl hn hp hr hF
  unfold parCells at hb HP HC
  go_enter Tryd.func7, Tryd.ntmps7
  go_wp2_with (go_at_call 12; go_must (
    refine (HC.out).mono ?_;
    rintro e w2 ⟨rfl, w1, hb1, hw2⟩;
    have c2 : w2.cell? ⟨w.heap.size, 2, none⟩ = some (.int .i64 pos) := by rw [hw2, World.cell?_setCell_other _ _ _ _ (by simp)]; exact cell_kept HP.out.c2 hb1;
    have c3 : w2.cell? ⟨w.heap.size, 3, none⟩ = some (.int .i64 (n - pos : Nat)) := by rw [hw2]; exact World.cell?_setCell_same _ _ _ (u := .int .i64 0) (cell_kept HP.out.c3 hb1);
    have B2 := Lib.hid (show Below w.heap.size w w2 by rw [hw2]; exact (hb.trans (below_le hb1 hb.size)).setCell (p := ⟨w.heap.size, 3, none⟩) (Nat.le_refl _) _);
    clear hb1 hw2))
  go_quiet (fail)
  go_wp2
  refine bodyPost_ret (v := .tuple #[.slice none 0 0, .bool false, .int .i64 pos, .int .i64 (n - pos : Nat)]) (by simp [results, Tryd.results7, go_sem]) rfl ⟨rfl, B2.out.trans (drewN_below w2)⟩

set_option maxRecDepth 100000 in
set_option maxHeartbeats 2000000 in
theorem zz_found (B n pos k : Nat) (l : List UInt8) (m : Int) (w : World) (hT : Lib.Utf8Tabs 1 2 w) (hm : w.cell? ⟨0, 0, none⟩ = some (.int .i64 m)) (hl : l.length = n) (hn : n ≤ 1048576) (hr : Row w B 0 l) (hF : First (l.drop pos) k) :
    Calls Tryd.prog 7 #[.slice (some ⟨B, 0, none⟩) n n, .int .i64 0, .int .i64 pos, .int .i64 0, .bool true] w fun e w' => e = .returned (.tuple #[.slice (some ⟨B, pos, none⟩) k (n - pos), .bool true, .int .i64 (pos + (k + el l (pos + k)) : Nat), .int .i64 0]) ∧ Below w.heap.size w w' := by
  have hb := below_new w (.cells (parCells (.slice (some ⟨B, 0, none⟩) n n) pos) 33)
  have HP := Lib.hid (par_new w (.slice (some ⟨B, 0, none⟩) n n) pos)
  have HC := Lib.hid (line_found w.heap.size B n pos k l m (w.alloc (.cells (parCells (.slice (some ⟨B, 0, none⟩) n n) pos) 33)) (Utf8Tabs_below hT hb) (cell_kept hm hb) hl hn HP.out (hr.later hb) hF)
  clear hT hm hl hn hr hF
  unfold parCells at hb HP HC
  generalize pos + (k + el l (pos + k)) = np at HC ⊢
  go_enter Tryd.func7, Tryd.ntmps7
  go_wp2_with (go_at_call 12; go_must (
    refine (HC.out).mono ?_;
    rintro e w2 ⟨rfl, w1, hb1, hw2⟩;
    have c2 : w2.cell? ⟨w.heap.size, 2, none⟩ = some (.int .i64 np) := by rw [hw2, World.cell?_setCell_other _ _ _ _ (by simp)]; exact World.cell?_setCell_same _ _ _ (u := .int .i64 pos) (cell_kept HP.out.c2 hb1);
    have c3 : w2.cell? ⟨w.heap.size, 3, none⟩ = some (.int .i64 0) := by rw [hw2]; exact World.cell?_setCell_same _ _ _ (u := .int .i64 0) (by rw [World.cell?_setCell_other _ _ _ _ (by simp)]; exact cell_kept HP.out.c3 hb1);
    have B2 := Lib.hid (show Below w.heap.size w w2 by rw [hw2]; exact ((hb.trans (below_le hb1 hb.size)).setCell (p := ⟨w.heap.size, 2, none⟩) (Nat.le_refl _) _).setCell (p := ⟨w.heap.size, 3, none⟩) (Nat.le_refl _) _);
    clear hb1 hw2))
  go_quiet (fail)
  go_wp2
  refine bodyPost_ret (v := .tuple #[.slice (some ⟨B, pos, none⟩) k (n - pos), .bool true, .int .i64 np, .int .i64 0]) (by simp [results, Tryd.results7, go_sem]) rfl ⟨rfl, B2.out.trans (drewN_below w2)⟩

end Go.Proofs.Qxb6003622aDoor
