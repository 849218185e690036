/-
  THE WALKS (errors 2): parser.errorf.
-/
import Derived.Test.Qxb6615666aFmtErr
namespace Go.Proofs.Qxb6615666aFmt
open Go.RowKit Go.Extern.Stop Go.Stop Go.Extern

attribute [local go_sem] Go.wp_at_zero Go.wp_at_succ Tryf.call14 Tryf.guard Tryf.fm1 Tryf.fm1r Tryf.fm2 Tryf.fm2r Tryf.fm3 Tryf.fm3r Tryf.op9_113 Tryf.op9_115 Tryf.op5_88 Tryf.act9_113 Tryf.act9_115 Tryf.act5_88

/-- fmt.Sprintf at one string under the verb s. -/
theorem rows_s (F : Interp) (av : Nat) (s0 : ByteArray) (W : World) (R : Value → World → Prop) (hF : F.answers W.tape) (ha : W.cell? ⟨av, 0, none⟩ = some (.iface 9 (.string s0))) (h : ∀ t, R (.string t) W.drew) :
    Rows Tryf.prog FmtCalls.turnsRow (FmtCalls.save 0 0 (.slice (some ⟨av, 0, none⟩) 1 1) ⟨#[37, 115]⟩ [] [(0, 115, false)]) W R := by
  have hF' := answers_open hF
  apply rows_value Tryf.nextTurns
  case hr =>
    go_simp
    exact ⟨rfl, rfl⟩
  case h => exact h _

/-- fmt.Sprintf at two strings, under the verbs s and q. -/
theorem rows_want (F : Interp) (av : Nat) (s0 s1 : ByteArray) (W : World) (R : Value → World → Prop) (hF : F.answers W.tape) (ha : W.cell? ⟨av, 0, none⟩ = some (.iface 9 (.string s0))) (hb : W.cell? ⟨av, 1, none⟩ = some (.iface 9 (.string s1))) (h : ∀ t, R (.string t) W.drew) :
    Rows Tryf.prog FmtCalls.turnsRow (FmtCalls.save 0 0 (.slice (some ⟨av, 0, none⟩) 2 2) ⟨#[119, 97, 110, 116, 32, 37, 115, 44, 32, 103, 111, 116, 32, 37, 113]⟩ [] [(0, 115, false), (1, 113, false)]) W R := by
  have hF' := answers_open hF
  apply rows_value Tryf.nextTurns
  case hr =>
    go_simp
    exact ⟨rfl, rfl⟩
  case h => exact h _

set_option maxRecDepth 100000 in
set_option maxHeartbeats 1000000 in
theorem errorf_s (F : Interp) (p b o c n i av : Nat) (l : List UInt8) (s0 : ByteArray) (w : World) (hF : F.answers w.tape) (hp : w.cell? ⟨p, 0, none⟩ = some (.slice (some ⟨b, o, none⟩) n c)) (hl : l.length = n) (hn : n ≤ 1048576) (hc : n ≤ c) (hi : i < n) (hr : Row w b o l)
    (ha : w.cell? ⟨av, 0, none⟩ = some (.iface 9 (.string s0))) :
    Calls Tryf.prog 11 #[.pointer (some ⟨p, 0, none⟩), .int .i64 i, .string ⟨#[37, 115]⟩, .slice (some ⟨av, 0, none⟩) 1 1] w fun e w' => (∃ a, e = .returned (.iface 61 (.pointer (some a)))) ∧ Below w.heap.size w w' := by
  have HF := Lib.hid hF
  have HL := Lib.hid hl
  have HR := Lib.hid hr
  clear hl hr hF
  go_enter Tryf.func11, Tryf.ntmps11
  go_wp2
  go_region_with (first
    | (refine rows_s F av s0 _ _ (by exact HF.out) (by go_cell) (fun t => ?_))
    | (go_at_call 13; go_must (refine (culprit_any b o c n i l _ _ HL.out hn hc hi (HR.out.later (by go_grown))).mono ?_; rintro e w3 ⟨⟨x, y, rfl⟩, hb⟩)))
  all_goals
    go_wp2
    go_ret
    have hw3 : Below w.heap.size w w3 := ⟨hb.os, hb.tape, hb.output, hb.size, hb.block⟩
    exact ⟨⟨_, rfl⟩, hw3.alloc hb.size _⟩

set_option maxRecDepth 100000 in
set_option maxHeartbeats 1000000 in
theorem errorf_want (F : Interp) (p b o c n i av : Nat) (l : List UInt8) (s0 s1 : ByteArray) (w : World) (hF : F.answers w.tape) (hp : w.cell? ⟨p, 0, none⟩ = some (.slice (some ⟨b, o, none⟩) n c)) (hl : l.length = n) (hn : n ≤ 1048576) (hc : n ≤ c) (hi : i < n) (hr : Row w b o l)
    (ha : w.cell? ⟨av, 0, none⟩ = some (.iface 9 (.string s0))) (ha1 : w.cell? ⟨av, 1, none⟩ = some (.iface 9 (.string s1))) :
    Calls Tryf.prog 11 #[.pointer (some ⟨p, 0, none⟩), .int .i64 i, .string ⟨#[119, 97, 110, 116, 32, 37, 115, 44, 32, 103, 111, 116, 32, 37, 113]⟩, .slice (some ⟨av, 0, none⟩) 2 2] w fun e w' => (∃ a, e = .returned (.iface 61 (.pointer (some a)))) ∧ Below w.heap.size w w' := by
  have HF := Lib.hid hF
  have HL := Lib.hid hl
  have HR := Lib.hid hr
  clear hl hr hF
  go_enter Tryf.func11, Tryf.ntmps11
  go_wp2
  go_region_with (first
    | (refine rows_want F av s0 s1 _ _ (by exact HF.out) (by go_cell) (by go_cell) (fun t => ?_))
    | (go_at_call 13; go_must (refine (culprit_any b o c n i l _ _ HL.out hn hc hi (HR.out.later (by go_grown))).mono ?_; rintro e w3 ⟨⟨x, y, rfl⟩, hb⟩)))
  all_goals
    go_wp2
    go_ret
    have hw3 : Below w.heap.size w w3 := ⟨hb.os, hb.tape, hb.output, hb.size, hb.block⟩
    exact ⟨⟨_, rfl⟩, hw3.alloc hb.size _⟩

end Go.Proofs.Qxb6615666aFmt
