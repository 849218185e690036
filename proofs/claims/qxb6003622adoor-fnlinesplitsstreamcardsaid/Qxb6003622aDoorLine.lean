/-
  THE WALKS (line): eventParser.line with final true, nothing scanned yet.
-/
import Derived.Test.Qxb6003622aDoorAny8
namespace Go.Proofs.Qxb6003622aDoor
open Go.RowKit

attribute [local go_sem] Go.wp_at_zero Go.wp_at_succ

/-- A parser's block: its text, the place, nothing scanned. -/
structure Par (w : World) (q : Nat) (src : Value) (pos : Nat) : Prop where
  c0 : w.cell? ⟨q, 0, none⟩ = some src
  c2 : w.cell? ⟨q, 2, none⟩ = some (.int .i64 pos)
  c3 : w.cell? ⟨q, 3, none⟩ = some (.int .i64 0)
  f2 : w.frozen? ⟨q, 2, none⟩ = false
  f3 : w.frozen? ⟨q, 3, none⟩ = false

theorem frozen_kept {w w' : World} {a : Addr} {v : Value} (hc : w.cell? a = some v) (h : w.frozen? a = false) (hb : Below w.heap.size w w') : w'.frozen? a = false := by
  have := hb.block a.block (lt_of_cell hc)
  unfold World.frozen? at h ⊢
  rw [this]
  exact h

theorem Par.later {w w' : World} {q pos : Nat} {src : Value} (h : Par w q src pos) (hb : Below w.heap.size w w') : Par w' q src pos :=
  ⟨cell_kept h.c0 hb, cell_kept h.c2 hb, cell_kept h.c3 hb, frozen_kept h.c2 h.f2 hb, frozen_kept h.c3 h.f3 hb⟩

theorem set2 {w1 : World} {A B : Addr} {a b : Int} {v : Value} (h : a = b) : (w1.setCell A (.int .i64 a)).setCell B v = (w1.setCell A (.int .i64 b)).setCell B v := by rw [h]

theorem any_part (B n pos : Nat) (l : List UInt8) (m r : Int) (w : World) (hT : Lib.Utf8Tabs 1 2 w) (hm : w.cell? ⟨0, 0, none⟩ = some (.int .i64 m)) (hl : l.length = n) (hn : n ≤ 1048576) (hr : Row w B 0 l) (hF : First (l.drop pos) r) (q : Nat) :
    Calls Tryd.prog 13 #[.slice (some ⟨B, pos, none⟩) (n - pos) (n - pos), .string ⟨#[13, 10]⟩] (w.drewN q) fun e w' => e = .returned (.int .i64 r) ∧ Below w.heap.size w w' := by
  have hb := drewN_below (B := w.heap.size) (q := q) w
  refine (any_is (some ⟨B, pos, none⟩) (n - pos) (n - pos) (l.drop pos) m r (w.drewN q) (Utf8Tabs_below hT hb) (cell_kept hm hb) (by rw [List.length_drop, hl]) (by omega) (Nat.le_refl _) (fun _ => ⟨B, pos, rfl, by simpa using (hr.later hb).part pos⟩) hF).mono ?_
  rintro e w' ⟨rfl, hb'⟩
  exact ⟨rfl, hb.trans hb'⟩

set_option maxRecDepth 100000 in
set_option maxHeartbeats 2000000 in
theorem line_none (q B n pos : Nat) (l : List UInt8) (m : Int) (w : World) (hT : Lib.Utf8Tabs 1 2 w) (hm : w.cell? ⟨0, 0, none⟩ = some (.int .i64 m)) (hl : l.length = n) (hn : n ≤ 1048576) (hp : pos < n) (hq : Par w q (.slice (some ⟨B, 0, none⟩) n n) pos) (hr : Row w B 0 l) (hF : First (l.drop pos) (-1)) :
    Calls Tryd.prog 12 #[.pointer (some ⟨q, 0, none⟩), .bool true] w fun e w' => e = .returned (.tuple #[.slice none 0 0, .bool false]) ∧ ∃ w1, Below w.heap.size w w1 ∧ w' = w1.setCell ⟨q, 3, none⟩ (.int .i64 (n - pos : Nat)) := by
  have HQ := Lib.hid hq
  obtain ⟨c0, c2, c3, f2, f3⟩ := hq
  have HA := Lib.hid (any_part B n pos l m (-1) w hT hm hl hn hr hF)
  clear hl hT hm hF f2 f3
  clear hr
  have hpi : (pos : Int) ≤ n := by omega
  have hpn : ¬ n = pos := by omega
  go_enter Tryd.func12, Tryd.ntmps12
  go_wp2
  go_quiet (fail)
  go_wp2_with (go_at_call 13; go_must (
    refine (HA.out _).mono ?_;
    rintro e w1 ⟨rfl, hb1⟩;
    have c3' := cell_kept c3 hb1;
    have f3' := frozen_kept HQ.out.c3 HQ.out.f3 hb1;
    have B1 := Lib.hid hb1;
    clear hb1))
  go_ret2
  exact ⟨rfl, w1, B1.out, rfl⟩

set_option maxRecDepth 100000 in
set_option maxHeartbeats 2000000 in
theorem line_last (q B n : Nat) (w : World) (hq : Par w q (.slice (some ⟨B, 0, none⟩) n n) n) :
    Calls Tryd.prog 12 #[.pointer (some ⟨q, 0, none⟩), .bool true] w fun e w' => e = .returned (.tuple #[.slice none 0 0, .bool false]) ∧ ∃ w1, Below w.heap.size w w1 ∧ w' = w1.setCell ⟨q, 3, none⟩ (.int .i64 (n - n : Nat)) := by
  have HQ := Lib.hid hq
  obtain ⟨c0, c2, c3, f2, f3⟩ := hq
  clear f2 f3
  go_enter Tryd.func12, Tryd.ntmps12
  go_wp2
  go_quiet (fail)
  go_wp2_with (go_at_call 13; go_must (
    refine (any_zero _ _ _).mono ?_;
    rintro e w1 ⟨rfl, hb1⟩;
    have B1 := Lib.hid (show Below w.heap.size w w1 by rw [← hb1]; exact drewN_below w);
    have c3' := cell_kept c3 B1.out;
    have f3' := frozen_kept HQ.out.c3 HQ.out.f3 B1.out;
    clear hb1))
  go_ret2
  exact ⟨rfl, w1, B1.out, by simp⟩

set_option maxRecDepth 100000 in
set_option maxHeartbeats 2000000 in
theorem line_lf (q B n pos k : Nat) (l : List UInt8) (m : Int) (w : World) (hT : Lib.Utf8Tabs 1 2 w) (hm : w.cell? ⟨0, 0, none⟩ = some (.int .i64 m)) (hl : l.length = n) (hn : n ≤ 1048576) (hq : Par w q (.slice (some ⟨B, 0, none⟩) n n) pos) (hr : Row w B 0 l) (hF : First (l.drop pos) k) (hy : l[pos + k]? = some 10)  :
    Calls Tryd.prog 12 #[.pointer (some ⟨q, 0, none⟩), .bool true] w fun e w' => e = .returned (.tuple #[.slice (some ⟨B, pos, none⟩) k (n - pos), .bool true]) ∧ ∃ w1, Below w.heap.size w w1 ∧ w' = (w1.setCell ⟨q, 2, none⟩ (.int .i64 (pos + (k + 1) : Nat))).setCell ⟨q, 3, none⟩ (.int .i64 0) := by
  have HQ := Lib.hid hq
  obtain ⟨c0, c2, c3, f2, f3⟩ := hq
  have hkn : pos + k < n := by have := (List.getElem?_eq_some_iff.1 hy).1; omega
  have HA := Lib.hid (any_part B n pos l m k w hT hm hl hn hr hF)
  have HR := Lib.hid hr
  have HY := Lib.hid hy
  have HL := Lib.hid hl
  clear hl hT hm hF f2 f3 hr hy
  have hpi : (pos : Int) ≤ n := by omega
  have hpn : ¬ n = pos := by omega
  have hki : (k : Int) < ((n - pos : Nat) : Int) := by omega
  have hkn' : k < n - pos := by omega
  go_enter Tryd.func12, Tryd.ntmps12
  go_wp2
  go_quiet (fail)
  go_wp2_with (go_at_call 13; go_must (
    refine (HA.out _).mono ?_;
    rintro e w1 ⟨rfl, hb1⟩;
    have c3' := cell_kept c3 hb1;
    have c2' := cell_kept c2 hb1;
    have f3' := frozen_kept HQ.out.c3 HQ.out.f3 hb1;
    have f2' := frozen_kept HQ.out.c2 HQ.out.f2 hb1;
    have e1 := HR.out.later hb1 (pos + k) 10 HY.out;
    simp only [Nat.zero_add] at e1;
    have B1 := Lib.hid hb1;
    clear hb1))
  go_ret2
  exact ⟨rfl, w1, B1.out, set2 (by omega)⟩

set_option maxRecDepth 100000 in
set_option maxHeartbeats 2000000 in
theorem line_cr_last (q B n pos k : Nat) (l : List UInt8) (m : Int) (w : World) (hT : Lib.Utf8Tabs 1 2 w) (hm : w.cell? ⟨0, 0, none⟩ = some (.int .i64 m)) (hl : l.length = n) (hn : n ≤ 1048576) (hq : Par w q (.slice (some ⟨B, 0, none⟩) n n) pos) (hr : Row w B 0 l) (hF : First (l.drop pos) k) (hy : l[pos + k]? = some 13) (he : pos + k + 1 = n)  :
    Calls Tryd.prog 12 #[.pointer (some ⟨q, 0, none⟩), .bool true] w fun e w' => e = .returned (.tuple #[.slice (some ⟨B, pos, none⟩) k (n - pos), .bool true]) ∧ ∃ w1, Below w.heap.size w w1 ∧ w' = (w1.setCell ⟨q, 2, none⟩ (.int .i64 (pos + (k + 1) : Nat))).setCell ⟨q, 3, none⟩ (.int .i64 0) := by
  have HQ := Lib.hid hq
  obtain ⟨c0, c2, c3, f2, f3⟩ := hq
  have hkn : pos + k < n := by have := (List.getElem?_eq_some_iff.1 hy).1; omega
  have HA := Lib.hid (any_part B n pos l m k w hT hm hl hn hr hF)
  have HR := Lib.hid hr
  have HY := Lib.hid hy
  have HL := Lib.hid hl
  clear hl hT hm hF f2 f3 hr hy
  have hpi : (pos : Int) ≤ n := by omega
  have hpn : ¬ n = pos := by omega
  have hki : (k : Int) < ((n - pos : Nat) : Int) := by omega
  have hkn' : k < n - pos := by omega
  have hx1 : (k : Int) + 1 = ((n - pos : Nat) : Int) := by omega
  go_enter Tryd.func12, Tryd.ntmps12
  go_wp2
  go_quiet (fail)
  go_wp2_with (go_at_call 13; go_must (
    refine (HA.out _).mono ?_;
    rintro e w1 ⟨rfl, hb1⟩;
    have c3' := cell_kept c3 hb1;
    have c2' := cell_kept c2 hb1;
    have f3' := frozen_kept HQ.out.c3 HQ.out.f3 hb1;
    have f2' := frozen_kept HQ.out.c2 HQ.out.f2 hb1;
    have e1 := HR.out.later hb1 (pos + k) 13 HY.out;
    simp only [Nat.zero_add] at e1;
    have B1 := Lib.hid hb1;
    clear hb1))
  go_ret2
  exact ⟨rfl, w1, B1.out, set2 (by omega)⟩

set_option maxRecDepth 100000 in
set_option maxHeartbeats 2000000 in
theorem line_crlf (q B n pos k : Nat) (l : List UInt8) (m : Int) (w : World) (hT : Lib.Utf8Tabs 1 2 w) (hm : w.cell? ⟨0, 0, none⟩ = some (.int .i64 m)) (hl : l.length = n) (hn : n ≤ 1048576) (hq : Par w q (.slice (some ⟨B, 0, none⟩) n n) pos) (hr : Row w B 0 l) (hF : First (l.drop pos) k) (hy : l[pos + k]? = some 13) (he : l[pos + k + 1]? = some 10)  :
    Calls Tryd.prog 12 #[.pointer (some ⟨q, 0, none⟩), .bool true] w fun e w' => e = .returned (.tuple #[.slice (some ⟨B, pos, none⟩) k (n - pos), .bool true]) ∧ ∃ w1, Below w.heap.size w w1 ∧ w' = (w1.setCell ⟨q, 2, none⟩ (.int .i64 (pos + (k + 2) : Nat))).setCell ⟨q, 3, none⟩ (.int .i64 0) := by
  have HQ := Lib.hid hq
  obtain ⟨c0, c2, c3, f2, f3⟩ := hq
  have hkn : pos + k < n := by have := (List.getElem?_eq_some_iff.1 hy).1; omega
  have HA := Lib.hid (any_part B n pos l m k w hT hm hl hn hr hF)
  have HR := Lib.hid hr
  have HY := Lib.hid hy
  have HL := Lib.hid hl
  clear hl hT hm hF f2 f3 hr hy
  have hpi : (pos : Int) ≤ n := by omega
  have hpn : ¬ n = pos := by omega
  have hki : (k : Int) < ((n - pos : Nat) : Int) := by omega
  have hkn' : k < n - pos := by omega
  have hkn2 : pos + k + 1 < n := by have := (List.getElem?_eq_some_iff.1 he).1; have := HL.out; omega
  have hx1 : ¬ (k : Int) + 1 = ((n - pos : Nat) : Int) := by omega
  have hx2 : (k : Int) + 1 < ((n - pos : Nat) : Int) := by omega
  have HE := Lib.hid he
  clear he
  go_enter Tryd.func12, Tryd.ntmps12
  go_wp2
  go_quiet (fail)
  go_wp2_with (go_at_call 13; go_must (
    refine (HA.out _).mono ?_;
    rintro e w1 ⟨rfl, hb1⟩;
    have c3' := cell_kept c3 hb1;
    have c2' := cell_kept c2 hb1;
    have f3' := frozen_kept HQ.out.c3 HQ.out.f3 hb1;
    have f2' := frozen_kept HQ.out.c2 HQ.out.f2 hb1;
    have e1 := HR.out.later hb1 (pos + k) 13 HY.out;
    simp only [Nat.zero_add] at e1;
    have e2 := HR.out.later hb1 (pos + k + 1) 10 HE.out;
    simp only [Nat.zero_add, Nat.add_assoc] at e2;
    have B1 := Lib.hid hb1;
    clear hb1))
  go_ret2
  exact ⟨rfl, w1, B1.out, set2 (by omega)⟩

set_option maxRecDepth 100000 in
set_option maxHeartbeats 2000000 in
theorem line_cr (q B n pos k : Nat) (l : List UInt8) (m : Int) (w : World) (hT : Lib.Utf8Tabs 1 2 w) (hm : w.cell? ⟨0, 0, none⟩ = some (.int .i64 m)) (hl : l.length = n) (hn : n ≤ 1048576) (hq : Par w q (.slice (some ⟨B, 0, none⟩) n n) pos) (hr : Row w B 0 l) (hF : First (l.drop pos) k) (hy : l[pos + k]? = some 13) (z : UInt8) (he : l[pos + k + 1]? = some z) (hz : z ≠ 10)  :
    Calls Tryd.prog 12 #[.pointer (some ⟨q, 0, none⟩), .bool true] w fun e w' => e = .returned (.tuple #[.slice (some ⟨B, pos, none⟩) k (n - pos), .bool true]) ∧ ∃ w1, Below w.heap.size w w1 ∧ w' = (w1.setCell ⟨q, 2, none⟩ (.int .i64 (pos + (k + 1) : Nat))).setCell ⟨q, 3, none⟩ (.int .i64 0) := by
  have HQ := Lib.hid hq
  obtain ⟨c0, c2, c3, f2, f3⟩ := hq
  have hkn : pos + k < n := by have := (List.getElem?_eq_some_iff.1 hy).1; omega
  have HA := Lib.hid (any_part B n pos l m k w hT hm hl hn hr hF)
  have HR := Lib.hid hr
  have HY := Lib.hid hy
  have HL := Lib.hid hl
  clear hl hT hm hF f2 f3 hr hy
  have hpi : (pos : Int) ≤ n := by omega
  have hpn : ¬ n = pos := by omega
  have hki : (k : Int) < ((n - pos : Nat) : Int) := by omega
  have hkn' : k < n - pos := by omega
  have hkn2 : pos + k + 1 < n := by have := (List.getElem?_eq_some_iff.1 he).1; have := HL.out; omega
  have hx1 : ¬ (k : Int) + 1 = ((n - pos : Nat) : Int) := by omega
  have hx2 : (k : Int) + 1 < ((n - pos : Nat) : Int) := by omega
  have HE := Lib.hid he
  have hz' : ¬ (z.toNat : Int) = 10 := fun h => hz (UInt8.toNat_inj.1 (by show z.toNat = 10; omega))
  clear he hz
  go_enter Tryd.func12, Tryd.ntmps12
  go_wp2
  go_quiet (fail)
  go_wp2_with (go_at_call 13; go_must (
    refine (HA.out _).mono ?_;
    rintro e w1 ⟨rfl, hb1⟩;
    have c3' := cell_kept c3 hb1;
    have c2' := cell_kept c2 hb1;
    have f3' := frozen_kept HQ.out.c3 HQ.out.f3 hb1;
    have f2' := frozen_kept HQ.out.c2 HQ.out.f2 hb1;
    have e1 := HR.out.later hb1 (pos + k) 13 HY.out;
    simp only [Nat.zero_add] at e1;
    have e2 := HR.out.later hb1 (pos + k + 1) z HE.out;
    simp only [Nat.zero_add, Nat.add_assoc] at e2;
    have B1 := Lib.hid hb1;
    clear hb1))
  go_ret2
  exact ⟨rfl, w1, B1.out, set2 (by omega)⟩

end Go.Proofs.Qxb6003622aDoor
