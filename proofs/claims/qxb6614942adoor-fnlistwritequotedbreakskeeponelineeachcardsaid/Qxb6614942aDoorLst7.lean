/-
  THE WALKS (list 7): List.Write of a name that is quoted.
-/
import Derived.Test.Qxb6614942aDoorLst6
namespace Go.Proofs.Qxb6614942aDoor
open Go.RowKit

attribute [local go_sem] Go.wp_at_zero Go.wp_at_succ

theorem below_le {B B' : Nat} {w w' : World} (h : Below B' w w') (hB : B ≤ B') : Below B w w' := ⟨h.os, h.tape, h.output, h.size, fun k hk => h.block k (by omega)⟩

theorem quoteZ_size (T : Lib.PrintTabs) (s : ByteArray) : (strOfNums (Lib.quoteZ T s)).size ≤ 10 * s.size + 2 := by
  have := Lib.quoteZ_length_le T s
  have e : (strOfNums (Lib.quoteZ T s)).size = (Lib.quoteZ T s).length := by simp [strOfNums, ByteArray.size]
  omega

set_option maxRecDepth 100000 in
set_option maxHeartbeats 1000000 in
theorem listWrite_quoted (T : Lib.PrintTabs) (KP : Option (Nat × Obj)) (B bb bw bf : Nat) (out : List Value) (e : Int) (v : Value) (l : List UInt8) (w : World) (h : Holds KP B bb bw bf out w) (hv : Nm B w v l) (hq : broken l = true)
    (hT : Lib.PrintTabsAt 4 5 6 7 T w) (hU : Lib.Utf8Tabs 2 3 w) (hl : l.length ≤ 1048576) (hlim : out.length ≤ 100000000) :
    Calls Tryd.prog 9 #[.agg #[.int .u8 e, .bool true], .pointer (some ⟨bw, 0, none⟩), v] w fun z w' => z = .returned .nilIface ∧ (∃ K, Holds K B bb bw bf (out ++ Lib.byteCells (Lib.bytesOf (Lib.quoteZ T ⟨l.toArray⟩)) ++ [.int .u8 e]) w') ∧ Below B w w' := by
  have H := Lib.hid (h.box (.cells #[.int .u8 e, .bool true] 26))
  have hBw := h.size
  have hbw : Below w.heap.size w (w.alloc (.cells #[.int .u8 e, .bool true] 26)) := (Below.refl _ w).alloc (Nat.le_refl _) _
  have hb1 : Below B w (w.alloc (.cells #[.int .u8 e, .bool true] 26)) := (Below.refl _ w).alloc hBw _
  have HV := Lib.hid (hv.later hb1)
  have HB1 := Lib.hid hb1
  have HT := Lib.hid (printTabs_below hT hbw)
  have HU := Lib.hid (Utf8Tabs_below hU hbw)
  have hsz : (⟨l.toArray⟩ : ByteArray).size = l.length := by simp [ByteArray.size]
  have hqs := quoteZ_size T ⟨l.toArray⟩
  rw [hsz] at hqs
  have hstr := HV.out.string
  have HQ := Lib.hid (Tryd.strconv_Quote T ⟨l.toArray⟩ _ (by rw [hsz]; omega) HT.out HU.out)
  generalize hS : strOfNums (Lib.quoteZ T ⟨l.toArray⟩) = S at *
  have hdata : Lib.bytesOf (Lib.quoteZ T ⟨l.toArray⟩) = S.data.toList := by rw [← hS]; rfl
  rw [hdata]
  have HL := Lib.hid hqs
  have hB1s : B ≤ (w.alloc (.cells #[.int .u8 e, .bool true] 26)).heap.size := by simp; omega
  have HBS := Lib.hid hB1s
  have i10 := Lib.hid (HV.out.index 10)
  have i13 := Lib.hid (HV.out.index 13)
  have hx10 : ((10 : Nat).toUInt8) = 10 := rfl
  have hx13 : ((13 : Nat).toUInt8) = 13 := rfl
  rw [hx10] at i10
  rw [hx13] at i13
  unfold broken at hq
  generalize Lib.indexByte l 10 = k10 at *
  generalize Lib.indexByte l 13 = k13 at *
  have hk : 0 ≤ k10 ∨ 0 ≤ k13 := by simpa using hq
  clear hq hv h hb1 hbw hT hU hsz hdata hS hqs hx10 hx13 hB1s HT HU
  by_cases h10 : 0 ≤ k10
  · clear hk i13
    go_enter Tryd.func9, Tryd.ntmps9
    go_wp2_with (first
      | (go_at_call 18; refine (i10.out).mono ?_; rintro z w1 ⟨rfl, rfl⟩)
      | (go_at_call 20; refine (HQ.out).mono ?_; rintro z w2 ⟨rfl, hb2⟩; have HB2 := Lib.hid hb2; clear hb2)
      | (go_at_call 19; refine (writeString_any _ B bb bw bf out _ _ _ (by exact H.out.later HB2.out) rfl (by have := HL.out; omega)).mono ?_; rintro z w3 ⟨rfl, hh3, hb3⟩; have hc : w3.cell? ⟨w.heap.size, 0, none⟩ = some (.int .u8 e) := (by rw [Lib.cell_of_heap hh3.kept]; rfl); have HH := Lib.hid hh3; have HB3 := Lib.hid hb3; clear hh3 hb3)
      | (go_at_call 22; refine (writeByte_any _ B bb bw bf _ _ _ (by exact HH.out) (by have := HL.out; simp [Lib.byteCells_length]; omega)).mono ?_; rintro z w4 ⟨rfl, hh4, hb4⟩))
    go_ret
    exact ⟨rfl, ⟨_, hh4⟩, HB1.out.trans ((below_le HB2.out HBS.out).trans (HB3.out.trans hb4))⟩
  · have h13 : 0 ≤ k13 := by omega
    clear hk
    go_enter Tryd.func9, Tryd.ntmps9
    go_wp2_with (first
      | (go_at_call 18; refine (i10.out).mono ?_; rintro z w1 ⟨rfl, rfl⟩)
      | (go_at_call 18; refine (i13.out).mono ?_; rintro z w1 ⟨rfl, rfl⟩)
      | (go_at_call 20; refine (HQ.out).mono ?_; rintro z w2 ⟨rfl, hb2⟩; have HB2 := Lib.hid hb2; clear hb2)
      | (go_at_call 19; refine (writeString_any _ B bb bw bf out _ _ _ (by exact H.out.later HB2.out) rfl (by have := HL.out; omega)).mono ?_; rintro z w3 ⟨rfl, hh3, hb3⟩; have hc : w3.cell? ⟨w.heap.size, 0, none⟩ = some (.int .u8 e) := (by rw [Lib.cell_of_heap hh3.kept]; rfl); have HH := Lib.hid hh3; have HB3 := Lib.hid hb3; clear hh3 hb3)
      | (go_at_call 22; refine (writeByte_any _ B bb bw bf _ _ _ (by exact HH.out) (by have := HL.out; simp [Lib.byteCells_length]; omega)).mono ?_; rintro z w4 ⟨rfl, hh4, hb4⟩))
    go_ret
    exact ⟨rfl, ⟨_, hh4⟩, HB1.out.trans ((below_le HB2.out HBS.out).trans (HB3.out.trans hb4))⟩

/-- List.Write: what stands in the sink behind it. -/
theorem listWrite (T : Lib.PrintTabs) (KP : Option (Nat × Obj)) (B bb bw bf : Nat) (out : List Value) (e : Int) (q : Bool) (v : Value) (l : List UInt8) (w : World) (h : Holds KP B bb bw bf out w) (hv : Nm B w v l)
    (hT : Lib.PrintTabsAt 4 5 6 7 T w) (hU : Lib.Utf8Tabs 2 3 w) (hl : l.length ≤ 1048576) (hlim : out.length ≤ 100000000) :
    Calls Tryd.prog 9 #[.agg #[.int .u8 e, .bool q], .pointer (some ⟨bw, 0, none⟩), v] w fun z w' => z = .returned .nilIface ∧ (∃ K, Holds K B bb bw bf (out ++ Lib.byteCells (enc T q l) ++ [.int .u8 e]) w') ∧ Below B w w' := by
  unfold enc
  by_cases hq : q = true ∧ broken l = true
  · rw [if_pos hq]
    obtain ⟨rfl, hq⟩ := hq
    exact listWrite_quoted T KP B bb bw bf out e v l w h hv hq hT hU hl hlim
  · rw [if_neg hq]
    exact listWrite_plain KP B bb bw bf out e q v l w h hv hq (by omega)

end Go.Proofs.Qxb6614942aDoor
