/-
  THE WALKS (errors 3): parser.fromScan, char, unexpected.
-/
import Derived.Test.Qxb6615666aFmtErr2
namespace Go.Proofs.Qxb6615666aFmt
open Go.RowKit Go.Extern.Stop Go.Stop Go.Extern

attribute [local go_sem] Go.wp_at_zero Go.wp_at_succ

set_option maxRecDepth 100000 in
set_option maxHeartbeats 1000000 in
theorem fromScan_any (F : Interp) (p q b o c n i : Nat) (l : List UInt8) (t : ByteArray) (w : World) (hF : F.answers w.tape) (hp : w.cell? ⟨p, 0, none⟩ = some (.slice (some ⟨b, o, none⟩) n c)) (hl : l.length = n) (hn : n ≤ 1048576) (hc : n ≤ c) (hi : i < n) (hr : Row w b o l)
    (hq0 : w.cell? ⟨q, 0, none⟩ = some (.int .i64 i)) (hq2 : w.cell? ⟨q, 2, none⟩ = some (.string t)) :
    Calls Tryf.prog 18 #[.pointer (some ⟨p, 0, none⟩), .pointer (some ⟨q, 0, none⟩)] w fun e w' => (∃ a, e = .returned (.iface 61 (.pointer (some a)))) ∧ Below w.heap.size w w' := by
  have HF := Lib.hid hF
  have HL := Lib.hid hl
  have HR := Lib.hid hr
  have HP := Lib.hid hp
  have hlt : q < w.heap.size := lt_of_cell hq0
  clear hl hr hF hp
  go_enter Tryf.func18, Tryf.ntmps18
  go_wp2
  go_region_with (go_at_call 11; go_must (refine (errorf_s F p b o c n i w.heap.size l t _ (by exact HF.out) (cell_kept HP.out (by go_grown)) HL.out hn hc hi (HR.out.later (by go_grown)) (by go_cell)).mono ?_; rintro e w3 ⟨⟨a, rfl⟩, hb⟩))
  all_goals
    go_wp2
    go_ret
    have hw3 : Below w.heap.size w w3 := (show Below w.heap.size w _ by go_grown).trans (below_le hb (by simp))
    exact ⟨⟨_, rfl⟩, hw3⟩

theorem slice_size (l : List UInt8) : (⟨l.toArray⟩ : ByteArray).size = l.length := by simp [ByteArray.size]

theorem decode_any (b o c n : Nat) (l : List UInt8) (w : World) (hT : Lib.Utf8Tabs 0 1 w) (hl : l.length = n) (hr : Row w b o l) :
    Calls Tryf.prog 17 #[.slice (some ⟨b, o, none⟩) n c] w fun e w' => (∃ r s : Int, e = .returned (.tuple #[.int .i32 r, .int .i64 s])) ∧ Below w.heap.size w w' := by
  have hsz : (⟨l.toArray⟩ : ByteArray).size = n := by rw [slice_size]; exact hl
  have := Tryf.utf8_DecodeRune ⟨l.toArray⟩ b o c w hT (fun j hj => by
    have hj' : j < l.length := by rw [hsz] at hj; omega
    rw [hr.get j hj']
    have hg : (⟨l.toArray⟩ : ByteArray).get! j = l[j] := getElem!_pos l.toArray j (by simpa using hj')
    rw [hg])
  rw [hsz] at this
  refine this.mono ?_
  rintro e w' ⟨rfl, hw⟩
  exact ⟨⟨_, _, rfl⟩, hw⟩

set_option maxRecDepth 100000 in
set_option maxHeartbeats 1000000 in
theorem char_any (F : Interp) (p b o c n i : Nat) (l : List UInt8) (w : World) (hF : F.answers w.tape) (hT : Lib.Utf8Tabs 0 1 w) (hp : w.cell? ⟨p, 0, none⟩ = some (.slice (some ⟨b, o, none⟩) n c)) (hl : l.length = n) (hn : n ≤ 1048576) (hc : n ≤ c) (hi : i < n) (hr : Row w b o l) :
    Calls Tryf.prog 15 #[.pointer (some ⟨p, 0, none⟩), .int .i64 i] w fun e w' => (∃ (r : Int) (v : Value), e = .returned (.tuple #[.int .i32 r, v]) ∧ (v = .nilIface ∨ ∃ a, v = .iface 61 (.pointer (some a)))) ∧ Below w.heap.size w w' := by
  have HF := Lib.hid hF
  have HL := Lib.hid hl
  have HR := Lib.hid hr
  have HP := Lib.hid hp
  have HT := Lib.hid hT
  have hci : ¬ c = i := by omega
  have hii : (i : Int) ≤ n := by omega
  clear hl hr hF hT
  go_enter Tryf.func15, Tryf.ntmps15
  go_wp2_with (first
    | (go_at_call 17; go_must (
        refine (decode_any b (o + i) (c - i) (n - i) (l.drop i) w HT.out (by rw [List.length_drop, HL.out]) (HR.out.part i)).mono ?_;
        rintro e w1 ⟨⟨r, s, rfl⟩, hb1⟩;
        have B1 := Lib.hid hb1;
        have hp1 := cell_kept HP.out hb1;
        clear hb1))
    | (go_at_call 19; go_must (
        have hil : i < l.length := by rw [HL.out]; exact hi;
        refine (notUTF8_any F b o c n i l[i].toNat w1 (by rw [B1.out.tape]; exact HF.out) hi ((HR.out.later B1.out).get i hil)).mono ?_;
        rintro e w2 ⟨p2, t, rfl, hle, hq0, hq2, hb2⟩;
        have B2 := Lib.hid hb2;
        have Q0 := Lib.hid hq0;
        have Q2 := Lib.hid hq2;
        clear hb2 hq0 hq2 hle))
    | (go_at_call 18; go_must (
        refine (fromScan_any F p p2 b o c n i l t w2 (by rw [B2.out.tape, B1.out.tape]; exact HF.out) (cell_kept (cell_kept HP.out B1.out) B2.out) HL.out hn hc hi ((HR.out.later B1.out).later B2.out) Q0.out Q2.out).mono ?_;
        rintro e w3 ⟨⟨a, rfl⟩, hb3⟩)))
  · go_ret2
    exact ⟨⟨_, _, rfl, Or.inr ⟨_, rfl⟩⟩, B1.out.trans (below_le (B2.out.trans (below_le hb3 B2.out.size)) B1.out.size)⟩
  · go_ret2
    exact ⟨⟨_, _, rfl, Or.inl rfl⟩, B1.out⟩
  · go_ret2
    exact ⟨⟨_, _, rfl, Or.inl rfl⟩, B1.out⟩

theorem eqg_neq (a : Addr) (w : World) : (eqGuard .neq 28 (.tmp 16) (.const .nilIface) (.iface 61 (.pointer (some a))) .nilIface).run Tryf.prog w = .ok () w := by kernel_rfl

theorem iface28 : Tryf.prog.isIface 28 = true := by kernel_rfl
theorem neq_nil (a : Addr) (w : World) : (binOp .neq 28 (.iface 61 (.pointer (some a))) .nilIface).run Tryf.prog w = .ok (.bool true) w := run_neq_iface_nil w 28 iface28 61 _
theorem eql_nil (a : Addr) (w : World) : (binOp .eql 28 (.iface 61 (.pointer (some a))) .nilIface).run Tryf.prog w = .ok (.bool false) w := run_eql_iface_nil w 28 iface28 61 _

theorem errorf_want_at (F : Interp) (p b o c n i : Nat) (l : List UInt8) (s0 s1 : ByteArray) (w : World) (hF : F.answers w.tape) (hp : w.cell? ⟨p, 0, none⟩ = some (.slice (some ⟨b, o, none⟩) n c)) (hl : l.length = n) (hn : n ≤ 1048576) (hc : n ≤ c) (hi : i < n) (hr : Row w b o l) :
    Calls Tryf.prog 11 #[.pointer (some ⟨p, 0, none⟩), .int .i64 i, .string ⟨#[119, 97, 110, 116, 32, 37, 115, 44, 32, 103, 111, 116, 32, 37, 113]⟩, .slice (some ⟨w.heap.size, 0, none⟩) 2 2] (w.alloc (.cells #[.iface 9 (.string s0), .iface 9 (.string s1)] 20)) fun e w' => (∃ a, e = .returned (.iface 61 (.pointer (some a)))) ∧ Below w.heap.size w w' := by
  have hb := below_new w (.cells #[.iface 9 (.string s0), .iface 9 (.string s1)] 20)
  refine (errorf_want F p b o c n i w.heap.size l s0 s1 (w.alloc (.cells #[.iface 9 (.string s0), .iface 9 (.string s1)] 20)) hF (cell_kept hp hb) hl hn hc hi (hr.later hb) (by rw [Lib.cell_of_heap (heap_alloc_new w _)]; rfl) (by rw [Lib.cell_of_heap (heap_alloc_new w _)]; rfl)).mono ?_
  rintro e w3 ⟨ha, hb3⟩
  exact ⟨ha, hb.trans (below_le hb3 hb.size)⟩

set_option maxRecDepth 100000 in
set_option maxHeartbeats 1000000 in
theorem unexpected_any (F : Interp) (p b o c n i : Nat) (l : List UInt8) (s0 : ByteArray) (w : World) (hF : F.answers w.tape) (hT : Lib.Utf8Tabs 0 1 w) (hp : w.cell? ⟨p, 0, none⟩ = some (.slice (some ⟨b, o, none⟩) n c)) (hp1 : w.cell? ⟨p, 1, none⟩ = some (.int .i64 i)) (hl : l.length = n) (hn : n ≤ 1048576) (hc : n ≤ c) (hi : i < n) (hr : Row w b o l) :
    Calls Tryf.prog 12 #[.pointer (some ⟨p, 0, none⟩), .string s0] w fun e w' => (∃ a, e = .returned (.iface 61 (.pointer (some a)))) ∧ Below w.heap.size w w' := by
  have HF := Lib.hid hF
  have HL := Lib.hid hl
  have HR := Lib.hid hr
  have HP := Lib.hid hp
  have HP1 := Lib.hid hp1
  have HT := Lib.hid hT
  clear hl hr hF hT hp
  have hch := Lib.hid (char_any F p b o c n i l w HF.out HT.out HP.out HL.out hn hc hi HR.out)
  go_enter Tryf.func12, Tryf.ntmps12
  go_wp2_with (first
    | (go_at_call 15; go_must (
        refine (hch.out).mono ?_;
        rintro e w1 ⟨⟨r, v, rfl, hv⟩, hb1⟩;
        have B1 := Lib.hid hb1;
        have q1 := cell_kept HP1.out hb1;
        have HI := iface28;
        clear hb1;
        rcases hv with rfl | ⟨a, rfl⟩))
    | (go_at_call 11; go_must (
        refine (errorf_want_at F p b o c n i l s0 _ w1 (by rw [B1.out.tape]; exact HF.out) (cell_kept HP.out B1.out) HL.out hn hc hi (HR.out.later B1.out)).mono ?_;
        rintro e w3 ⟨⟨a, rfl⟩, hb3⟩)))
  · go_ret
    exact ⟨⟨_, rfl⟩, B1.out.trans (below_le hb3 B1.out.size)⟩
  · go_ret
    exact ⟨⟨_, rfl⟩, B1.out⟩

end Go.Proofs.Qxb6615666aFmt
