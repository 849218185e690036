/-
  THE LAW 'FnColonAcceptsExactlyAColon': its walk.
-/
import Derived.Test.Qxb6615666aFmtPar
namespace Go.Proofs.Qxb6615666aFmt
open Go.RowKit Go.Extern.Stop Go.Stop Go.Extern

attribute [local go_sem] Go.wp_at_zero Go.wp_at_succ

theorem bound_ok (x : Option Addr) (n c : Nat) (i : Int) (w : World) (h : n ≤ 1048576) :
    Calls Tryf.prog 4 #[.slice x n c, .int .i64 i] w fun e w' => e = .returned (.bool true) ∧ w = w' := by
  have h' : ¬ (1048576 : Int) < n := by omega
  go_enter Tryf.func4, Tryf.ntmps4
  go_wp2
  go_ret
  exact ⟨rfl, rfl⟩

theorem bound_no (x : Option Addr) (n c : Nat) (i : Int) (w : World) (h : ¬ n ≤ 1048576) :
    Calls Tryf.prog 4 #[.slice x n c, .int .i64 i] w fun e w' => e = .returned (.bool false) ∧ w = w' := by
  have h' : (1048576 : Int) < n := by omega
  go_enter Tryf.func4, Tryf.ntmps4
  go_wp2
  go_ret
  exact ⟨rfl, rfl⟩

theorem Laid.row {w0 w : World} {n : Nat} {l : List UInt8} (h : Laid w0 w n n l) (hl : l.length = n) : Row w w0.heap.size 0 l := by
  obtain ⟨X, h1, h2, h3, h4, h5⟩ := h
  intro j x hj
  have hjl := (List.getElem?_eq_some_iff.1 hj).1
  rw [Nat.zero_add, Lib.cell_of_heap h1]
  exact h3 j x (by omega) hj

theorem Laid.below {w0 w : World} {n : Nat} {l : List UInt8} (h : Laid w0 w n n l) : Below w0.heap.size w0 w := by
  obtain ⟨X, h1, h2, h3, h4, h5⟩ := h
  exact h4

theorem Laid.place {w0 w : World} {n : Nat} {l : List UInt8} (h : Laid w0 w n n l) (i : Nat) (hi : i < n) : (∃ v, w.cell? ⟨w0.heap.size, i, none⟩ = some v) ∧ w.frozen? ⟨w0.heap.size, i, none⟩ = false := by
  obtain ⟨X, h1, h2, h3, h4, h5⟩ := h
  exact ⟨⟨X[i], by rw [Lib.cell_of_heap h1]; simp [h2, hi]⟩, Lib.frozen_of_heap h1 i⟩

/-- The two copies, a colon laid into the second. -/
structure Two (w w1 w3 : World) (n k : Nat) (l : List UInt8) : Prop where
  row : Row w3 w.heap.size 0 l
  at2 : w3.cell? ⟨w1.heap.size, 0 + k, none⟩ = some (.int .u8 58)
  below : Below w.heap.size w w3

theorem two_of {w w1 w2 : World} {n k : Nat} {l : List UInt8} (h1 : Laid w w1 n n l) (h2 : Laid w1 w2 n n l) (hl : l.length = n) (hk : k < n) : Two w w1 (w2.setCell ⟨w1.heap.size, k, none⟩ (.int .u8 58)) n k l := by
  have b1 := h1.below
  have b2 := h2.below
  obtain ⟨⟨v, hv⟩, hf⟩ := h2.place k hk
  have hlt : w.heap.size < w1.heap.size := by obtain ⟨X, h1, h2, h3, h4, h5⟩ := h1; omega
  refine ⟨?_, ?_, ?_⟩
  · intro j x hj
    rw [World.cell?_setCell_other _ _ _ _ (by intro h; have := congrArg Addr.block h; simp at this; omega)]
    exact (h1.row hl).later b2 j x hj
  · rw [Nat.zero_add]
    exact World.cell?_setCell_same _ _ _ hv
  · exact (b1.trans (below_le b2 b1.size)).setCell (p := ⟨w1.heap.size, k, none⟩) b1.size _

set_option maxRecDepth 100000 in
set_option maxHeartbeats 1000000 in
theorem law_yes (F : Interp) (b o c n k : Nat) (l : List UInt8) (w : World) (hF : F.answers w.tape) (hT : Lib.Utf8Tabs 0 1 w) (hl : l.length = n) (hn : n ≤ 1048576) (hk : k < n) (hr : Row w b o l) (hx : l[k]? = some 58) :
    Calls Tryf.prog 3 #[.slice (some ⟨b, o, none⟩) n c, .int .i64 k] w fun e w' => e = .returned (.bool true) ∧ Below w.heap.size w w' := by
  have HF := Lib.hid hF
  have HT := Lib.hid hT
  have HL := Lib.hid hl
  have HR := Lib.hid hr
  have HX := Lib.hid hx
  have HI := iface28
  have i1 : ¬ (1048576 : Int) < n := by omega
  have i2 : ¬ (n : Int) ≤ k := by omega
  have i3 : (k : Int) < n := by omega
  
  clear hF hT hl hr hx
  go_enter Tryf.func3, Tryf.ntmps3
  go_wp2_with (first
    | (go_at_call 4; go_must (refine (bound_ok _ n c k w hn).mono ?_; rintro e w' ⟨rfl, rfl⟩))
    | (go_at_call 5; (
        refine (clone_any w.heap.size 0 n n l w1 HL.out hn (L1.out.row HL.out)).mono ?_;
        rintro e w2 ⟨rfl, hl2⟩;
        have L2 := Lib.hid hl2;
        obtain ⟨⟨v2, hv2⟩, hf2⟩ := hl2.place k hk;
        have T3 := Lib.hid (two_of L1.out L2.out HL.out hk);
        clear hl2))
    | (go_at_call 5; go_must (
        refine (clone_any b o c n l w HL.out hn HR.out).mono ?_;
        rintro e w1 ⟨rfl, hl1⟩;
        have L1 := Lib.hid hl1;
        clear hl1))
    | (go_at_call 6; (
        refine (newDict_any w1.heap.size 0 n n k w6).mono ?_;
        rintro e w7 ⟨rfl, hp7, hb7⟩;
        have P7 := Lib.hid hp7;
        have B7 := Lib.hid (B6.out.trans (below_le hb7 B6.out.size));
        clear hp7 hb7))
    | (go_at_call 6; go_must (
        generalize hw3 : w2.setCell ⟨w1.heap.size, k, none⟩ (.int .u8 58) = w3 at T3 ⊢;
        have W3 := Lib.hid hw3;
        clear hw3;
        refine (newDict_any w.heap.size 0 n n k w3).mono ?_;
        rintro e w4 ⟨rfl, hp4, hb4⟩;
        have P4 := Lib.hid hp4;
        have B4 := Lib.hid hb4;
        clear hp4 hb4))
    | (go_at_call 7; (
        refine (zzcolon_yes w6.heap.size (w6.heap.size + 1) w1.heap.size 0 n n k w7 P7.out (by omega) hk hn (cell_kept T3.out.at2 B7.out)).mono ?_;
        rintro e w8 ⟨rfl, hp8, hb8⟩;
        have P8 := Lib.hid hp8;
        have B8 := Lib.hid (B7.out.trans (below_le hb8 B6.out.size));
        clear hp8 hb8))
    | (go_at_call 7; go_must (
        refine (zzcolon_yes w3.heap.size (w3.heap.size + 1) w.heap.size 0 n n k w4 P4.out (by omega) hk hn (cell_kept (T3.out.row k 58 HX.out) B4.out)).mono ?_;
        rintro e w5 ⟨rfl, hp5, hb5⟩;
        have P5 := Lib.hid hp5;
        have B5 := Lib.hid (B4.out.trans hb5);
        clear hp5 hb5))
    | (go_at_call 8; (
        refine (at8 w6.heap.size (w6.heap.size + 1) _ _ _ w8 P8.out).mono ?_;
        rintro e w9 ⟨rfl, hb9⟩;
        have B9 := Lib.hid (B8.out.trans (below_le hb9 B8.out.size));
        have c9 := cell_kept (T3.out.row k 58 HX.out) B9.out;
        rw [Nat.zero_add] at c9;
        clear hb9))
    | (go_at_call 8; go_must (
        refine (at8 w3.heap.size (w3.heap.size + 1) _ _ _ w5 P5.out).mono ?_;
        rintro e w6 ⟨rfl, hb6⟩;
        have B6 := Lib.hid (B5.out.trans (below_le hb6 B5.out.size));
        clear hb6)))
  all_goals first | (exfalso; omega) | go_ret
  exact ⟨rfl, T3.out.below.trans (below_le B9.out T3.out.below.size)⟩

set_option maxRecDepth 100000 in
set_option maxHeartbeats 1000000 in
theorem law_no (F : Interp) (b o c n k : Nat) (l : List UInt8) (w : World) (hF : F.answers w.tape) (hT : Lib.Utf8Tabs 0 1 w) (hl : l.length = n) (hn : n ≤ 1048576) (hk : k < n) (hr : Row w b o l) (x : UInt8) (xi : Int) (hx : l[k]? = some x) (hxi : xi = x.toNat) (hne : xi ≠ 58) :
    Calls Tryf.prog 3 #[.slice (some ⟨b, o, none⟩) n c, .int .i64 k] w fun e w' => e = .returned (.bool true) ∧ Below w.heap.size w w' := by
  have HF := Lib.hid hF
  have HT := Lib.hid hT
  have HL := Lib.hid hl
  have HR := Lib.hid hr
  have HX := Lib.hid hx
  have HI := iface28
  have i1 : ¬ (1048576 : Int) < n := by omega
  have i2 : ¬ (n : Int) ≤ k := by omega
  have i3 : (k : Int) < n := by omega
  have HXI := Lib.hid hxi
  clear hF hT hl hr hx hxi
  go_enter Tryf.func3, Tryf.ntmps3
  go_wp2_with (first
    | (go_at_call 4; go_must (refine (bound_ok _ n c k w hn).mono ?_; rintro e w' ⟨rfl, rfl⟩))
    | (go_at_call 5; (
        refine (clone_any w.heap.size 0 n n l w1 HL.out hn (L1.out.row HL.out)).mono ?_;
        rintro e w2 ⟨rfl, hl2⟩;
        have L2 := Lib.hid hl2;
        obtain ⟨⟨v2, hv2⟩, hf2⟩ := hl2.place k hk;
        have T3 := Lib.hid (two_of L1.out L2.out HL.out hk);
        clear hl2))
    | (go_at_call 5; go_must (
        refine (clone_any b o c n l w HL.out hn HR.out).mono ?_;
        rintro e w1 ⟨rfl, hl1⟩;
        have L1 := Lib.hid hl1;
        clear hl1))
    | (go_at_call 6; (
        refine (newDict_any w1.heap.size 0 n n k w6).mono ?_;
        rintro e w7 ⟨rfl, hp7, hb7⟩;
        have P7 := Lib.hid hp7;
        have B7 := Lib.hid (B6.out.trans (below_le hb7 B6.out.size));
        clear hp7 hb7))
    | (go_at_call 6; go_must (
        generalize hw3 : w2.setCell ⟨w1.heap.size, k, none⟩ (.int .u8 58) = w3 at T3 ⊢;
        have W3 := Lib.hid hw3;
        clear hw3;
        refine (newDict_any w.heap.size 0 n n k w3).mono ?_;
        rintro e w4 ⟨rfl, hp4, hb4⟩;
        have P4 := Lib.hid hp4;
        have B4 := Lib.hid hb4;
        clear hp4 hb4))
    | (go_at_call 7; (
        refine (zzcolon_yes w6.heap.size (w6.heap.size + 1) w1.heap.size 0 n n k w7 P7.out (by omega) hk hn (cell_kept T3.out.at2 B7.out)).mono ?_;
        rintro e w8 ⟨rfl, hp8, hb8⟩;
        have P8 := Lib.hid hp8;
        have B8 := Lib.hid (B7.out.trans (below_le hb8 B6.out.size));
        clear hp8 hb8))
    | (go_at_call 7; go_must (
        refine (zzcolon_no F w3.heap.size (w3.heap.size + 1) w.heap.size 0 n n k xi l w4 (by rw [B4.out.tape, T3.out.below.tape]; exact HF.out) (Utf8Tabs_below (Utf8Tabs_below HT.out T3.out.below) B4.out) P4.out hk hn (Nat.le_refl _) HL.out (T3.out.row.later B4.out) (by rw [HXI.out]; exact cell_kept (T3.out.row k x HX.out) B4.out) hne).mono ?_;
        rintro e w5 ⟨⟨a5, rfl⟩, hb5⟩;
        have P5 := Lib.hid (P4.out.later hb5);
        have B5 := Lib.hid (B4.out.trans (below_le hb5 B4.out.size));
        clear hb5))
    | (go_at_call 8; (
        refine (at8 w6.heap.size (w6.heap.size + 1) _ _ _ w8 P8.out).mono ?_;
        rintro e w9 ⟨rfl, hb9⟩;
        have B9 := Lib.hid (B8.out.trans (below_le hb9 B8.out.size));
        have c9 := cell_kept (T3.out.row k x HX.out) B9.out;
        rw [Nat.zero_add, ← HXI.out] at c9;
        clear hb9))
    | (go_at_call 8; go_must (
        refine (at8 w3.heap.size (w3.heap.size + 1) _ _ _ w5 P5.out).mono ?_;
        rintro e w6 ⟨rfl, hb6⟩;
        have B6 := Lib.hid (B5.out.trans (below_le hb6 B5.out.size));
        clear hb6)))
  all_goals first | (exfalso; omega) | go_ret
  exact ⟨rfl, T3.out.below.trans (below_le B9.out T3.out.below.size)⟩

set_option maxRecDepth 100000 in
set_option maxHeartbeats 1000000 in
theorem law (F : Interp) (x : Option Addr) (c n : Nat) (i : Int) (l : List UInt8) (w : World) (hF : F.answers w.tape) (hT : Lib.Utf8Tabs 0 1 w) (hl : l.length = n) (h : n = 0 ∨ ∃ b o, x = some ⟨b, o, none⟩ ∧ Row w b o l) :
    Calls Tryf.prog 3 #[.slice x n c, .int .i64 i] w fun e w' => e = .returned (.bool true) ∧ Below w.heap.size w w' := by
  by_cases hn : n ≤ 1048576
  · have i1 : ¬ (1048576 : Int) < n := by omega
    by_cases h0 : i < 0
    · clear h hF hT hl
      go_enter Tryf.func3, Tryf.ntmps3
      go_wp2_with (first | (go_at_call 4; go_must (refine (bound_ok x n c i w hn).mono ?_; rintro e w' ⟨rfl, rfl⟩)) | (go_at_call 5; go_must (fail)))
      go_ret
      exact ⟨rfl, Below.refl _ _⟩
    · by_cases h1 : (n : Int) ≤ i
      · clear h hF hT hl
        go_enter Tryf.func3, Tryf.ntmps3
        go_wp2_with (first | (go_at_call 4; go_must (refine (bound_ok x n c i w hn).mono ?_; rintro e w' ⟨rfl, rfl⟩)) | (go_at_call 5; go_must (fail)))
        go_ret
        exact ⟨rfl, Below.refl _ _⟩
      · obtain ⟨k, rfl⟩ : ∃ k : Nat, i = k := ⟨i.toNat, by omega⟩
        rcases h with h | ⟨b, o, rfl, hr⟩
        · omega
        · have hk : k < n := by omega
          have hkl : l[k]? = some (l[k]'(by omega)) := by simp [hl, hk]
          by_cases hx : l[k]'(by omega) = 58
          · rw [hx] at hkl
            exact law_yes F b o c n k l w hF hT hl hn hk hr hkl
          · refine law_no F b o c n k l w hF hT hl hn hk hr _ _ hkl rfl ?_
            intro he
            apply hx
            apply UInt8.toNat_inj.1
            have : (58 : UInt8).toNat = 58 := rfl
            omega
  · clear h hF hT hl
    go_enter Tryf.func3, Tryf.ntmps3
    go_wp2_with (first | (go_at_call 4; go_must (refine (bound_no x n c i w hn).mono ?_; rintro e w' ⟨rfl, rfl⟩)) | (go_at_call 5; go_must (fail)))
    go_ret
    exact ⟨rfl, Below.refl _ _⟩

end Go.Proofs.Qxb6615666aFmt
