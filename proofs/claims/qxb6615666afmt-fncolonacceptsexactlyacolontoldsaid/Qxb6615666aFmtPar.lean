/-
  THE WALKS (parser): ZZnewDictParser, colon, ZZparserAt.
-/
import Derived.Test.Qxb6615666aFmtErr3
namespace Go.Proofs.Qxb6615666aFmt
open Go.RowKit Go.Extern.Stop Go.Stop Go.Extern

attribute [local go_sem] Go.wp_at_zero Go.wp_at_succ

/-- What the walks ask of a parser: its block p, its one frame's block f. -/
structure Ps (w : World) (p f : Nat) (src : Value) (i st : Int) : Prop where
  c0 : w.cell? ⟨p, 0, none⟩ = some src
  c1 : w.cell? ⟨p, 1, none⟩ = some (.int .i64 i)
  c10 : w.cell? ⟨p, 10, none⟩ = some (.pointer (some ⟨f, 0, none⟩))
  s2 : w.cell? ⟨f, 2, none⟩ = some (.int .u8 st)
  f1 : w.frozen? ⟨p, 1, none⟩ = false
  f2 : w.frozen? ⟨f, 2, none⟩ = false
  ne : p ≠ f

theorem Ps.later {w w' : World} {p f : Nat} {src : Value} {i st : Int} (h : Ps w p f src i st) (hb : Below w.heap.size w w') : Ps w' p f src i st :=
  ⟨cell_kept h.c0 hb, cell_kept h.c1 hb, cell_kept h.c10 hb, cell_kept h.s2 hb, frozen_kept h.f1 (lt_of_cell h.c1) hb, frozen_kept h.f2 (lt_of_cell h.s2) hb, h.ne⟩

set_option maxRecDepth 100000 in
set_option maxHeartbeats 1000000 in
theorem newDict_any (b o n c : Nat) (i : Int) (w : World) :
    Calls Tryf.prog 6 #[.slice (some ⟨b, o, none⟩) n c, .int .i64 i] w fun e w' => e = .returned (.pointer (some ⟨w.heap.size, 0, none⟩)) ∧ Ps w' w.heap.size (w.heap.size + 1) (.slice (some ⟨b, o, none⟩) n c) i 1 ∧ Below w.heap.size w w' := by
  go_enter Tryf.func6, Tryf.ntmps6
  go_wp2
  go_ret
  exact ⟨rfl, ⟨by go_cell, by go_cell, by go_cell, by go_cell, by go_cell, by go_cell, by omega⟩, by go_grown⟩

theorem top_any (a : Nat) (v : Value) (w : World) (h : w.cell? ⟨a, 10, none⟩ = some v) :
    Calls Tryf.prog 10 #[.pointer (some ⟨a, 8, none⟩)] w fun e w' => e = .returned v ∧ w = w' := by
  go_enter Tryf.func10, Tryf.ntmps10
  go_wp2
  go_ret
  exact ⟨rfl, rfl⟩

set_option maxRecDepth 100000 in
set_option maxHeartbeats 1000000 in
theorem colon_yes (p f b o n c i : Nat) (w : World) (h : Ps w p f (.slice (some ⟨b, o, none⟩) n c) i 1) (hi : i < n) (hn : n ≤ 1048576) (hx : w.cell? ⟨b, o + i, none⟩ = some (.int .u8 58)) :
    Calls Tryf.prog 9 #[.pointer (some ⟨p, 0, none⟩), .int .i64 (-1)] w fun e w' => e = .returned .nilIface ∧ ∃ q, w' = ((w.drewN q).setCell ⟨p, 1, none⟩ (.int .i64 (i + 1))).setCell ⟨f, 2, none⟩ (.int .u8 2) := by
  have H := Lib.hid h
  obtain ⟨c0, c1, c10, s2, f1, f2, ne⟩ := h
  have hii : (i : Int) < n := by omega
  go_enter Tryf.func9, Tryf.ntmps9
  go_wp2
  go_quiet (fail)
  go_wp2
  go_ret
  exact ⟨rfl, _, rfl⟩

theorem Ps.turned {w : World} {p f : Nat} {src : Value} {i : Nat} (h : Ps w p f src i 1) (hpf : p ≤ f) (q : Nat) :
    Ps (((w.drewN q).setCell ⟨p, 1, none⟩ (.int .i64 (i + 1))).setCell ⟨f, 2, none⟩ (.int .u8 2)) p f src (i + 1) 2 ∧ Below p w (((w.drewN q).setCell ⟨p, 1, none⟩ (.int .i64 (i + 1))).setCell ⟨f, 2, none⟩ (.int .u8 2)) := by
  have hne := h.ne
  have a1 : ∀ (a b : Addr) (u v : Value) (W : World), a ≠ b → W.cell? b = some v → (W.setCell a u).cell? b = some v := fun a b u v W hab hc => by rw [World.cell?_setCell_other _ _ _ _ hab]; exact hc
  refine ⟨⟨?_, ?_, ?_, ?_, ?_, ?_, hne⟩, ?_⟩
  · exact a1 _ _ _ _ _ (by simp) (a1 _ _ _ _ _ (by simp) h.c0)
  · exact a1 _ _ _ _ _ (by simp) (World.cell?_setCell_same _ _ _ (u := .int .i64 i) h.c1)
  · exact a1 _ _ _ _ _ (by simp) (a1 _ _ _ _ _ (by simp) h.c10)
  · exact World.cell?_setCell_same _ _ _ (u := .int .u8 1) (a1 _ _ _ _ _ (by simp) h.s2)
  · simpa using h.f1
  · simpa using h.f2
  · exact ((drewN_below (B := p) (q := q) w).setCell (p := ⟨p, 1, none⟩) (Nat.le_refl _) _).setCell (p := ⟨f, 2, none⟩) hpf _

set_option maxRecDepth 100000 in
set_option maxHeartbeats 1000000 in
theorem colon_no (F : Interp) (p f b o n c i : Nat) (x : Int) (l : List UInt8) (w : World) (hF : F.answers w.tape) (hT : Lib.Utf8Tabs 0 1 w) (h : Ps w p f (.slice (some ⟨b, o, none⟩) n c) i 1) (hi : i < n) (hn : n ≤ 1048576) (hc : n ≤ c) (hl : l.length = n) (hr : Row w b o l) (hx : w.cell? ⟨b, o + i, none⟩ = some (.int .u8 x)) (hne : x ≠ 58) :
    Calls Tryf.prog 9 #[.pointer (some ⟨p, 0, none⟩), .int .i64 (-1)] w fun e w' => (∃ a, e = .returned (.iface 61 (.pointer (some a)))) ∧ Below w.heap.size w w' := by
  have H := Lib.hid h
  obtain ⟨c0, c1, c10, s2, f1, f2, ne⟩ := h
  have hii : (i : Int) < n := by omega
  have HF := Lib.hid hF
  have HL := Lib.hid hl
  have HR := Lib.hid hr
  have HT := Lib.hid hT
  clear hl hr hF hT c10 s2 f1 f2 ne
  go_enter Tryf.func9, Tryf.ntmps9
  go_wp2
  go_quiet (fail)
  go_wp2_with (go_at_call 12; go_must (
    refine (unexpected_any F p b o c n i l _ _ (by exact HF.out) (Utf8Tabs_below HT.out (drewN_below w)) (cell_kept H.out.c0 (drewN_below w)) (cell_kept H.out.c1 (drewN_below w)) HL.out hn hc hi (HR.out.later (drewN_below w))).mono ?_;
    rintro e w3 ⟨⟨a, rfl⟩, hb3⟩))
  go_ret
  exact ⟨⟨_, rfl⟩, (drewN_below w).trans hb3⟩

/-- ZZcolon at a colon. -/
theorem zzcolon_yes (p f b o n c i : Nat) (w : World) (h : Ps w p f (.slice (some ⟨b, o, none⟩) n c) i 1) (hpf : p ≤ f) (hi : i < n) (hn : n ≤ 1048576) (hx : w.cell? ⟨b, o + i, none⟩ = some (.int .u8 58)) :
    Calls Tryf.prog 7 #[.pointer (some ⟨p, 0, none⟩), .int .i64 (-1)] w fun e w' => e = .returned .nilIface ∧ Ps w' p f (.slice (some ⟨b, o, none⟩) n c) (i + 1) 2 ∧ Below p w w' := by
  have H := Lib.hid h
  have hc := Lib.hid (colon_yes p f b o n c i w h hi hn hx)
  clear h hx
  go_enter Tryf.func7, Tryf.ntmps7
  go_wp2_with (go_at_call 9; go_must (refine (hc.out).mono ?_; rintro e w' ⟨rfl, q, hw⟩))
  go_ret
  subst hw
  exact ⟨rfl, H.out.turned hpf q⟩

/-- ZZcolon elsewhere. -/
theorem zzcolon_no (F : Interp) (p f b o n c i : Nat) (x : Int) (l : List UInt8) (w : World) (hF : F.answers w.tape) (hT : Lib.Utf8Tabs 0 1 w) (h : Ps w p f (.slice (some ⟨b, o, none⟩) n c) i 1) (hi : i < n) (hn : n ≤ 1048576) (hc : n ≤ c) (hl : l.length = n) (hr : Row w b o l) (hx : w.cell? ⟨b, o + i, none⟩ = some (.int .u8 x)) (hne : x ≠ 58) :
    Calls Tryf.prog 7 #[.pointer (some ⟨p, 0, none⟩), .int .i64 (-1)] w fun e w' => (∃ a, e = .returned (.iface 61 (.pointer (some a)))) ∧ Below w.heap.size w w' := by
  have hc := Lib.hid (colon_no F p f b o n c i x l w hF hT h hi hn hc hl hr hx hne)
  clear h hx hF hT hr hl
  go_enter Tryf.func7, Tryf.ntmps7
  go_wp2_with (go_at_call 9; go_must (refine (hc.out).mono ?_; rintro e w' ⟨⟨a, rfl⟩, hb⟩))
  go_ret
  exact ⟨⟨_, rfl⟩, hb⟩

set_option maxRecDepth 100000 in
set_option maxHeartbeats 1000000 in
theorem at8 (p f : Nat) (src : Value) (i st : Int) (w : World) (h : Ps w p f src i st) :
    Calls Tryf.prog 8 #[.pointer (some ⟨p, 0, none⟩)] w fun e w' => e = .returned (.tuple #[.int .i64 i, .int .u8 st]) ∧ Below w.heap.size w w' := by
  obtain ⟨c0, c1, c10, s2, f1, f2, ne⟩ := h
  clear c0 f1 f2 ne
  go_enter Tryf.func8, Tryf.ntmps8
  go_wp2
  go_region_with (go_at_call 10; go_must (refine (top_any p _ _ (cell_kept c10 (by go_grown))).mono ?_; rintro e w' ⟨rfl, rfl⟩))
  all_goals
    go_wp2
    go_ret2
    exact ⟨rfl, by go_grown⟩

end Go.Proofs.Qxb6615666aFmt
