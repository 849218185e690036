/-
  THE START THAT IS SHOWN TO BE THERE: a world in which the eight listed variables hold what the rows list; and what a slice of bytes that comes in reads as.
-/
import Derived.Test.Qxb6614942aDoorRows
import Derived.Test.Qxb6614942aDoorLaw4
import Derived.Deep.DeepHandedRow
import Derived.Deep.DeepWitnessRowRef
import Derived.Lib.LaidIn
import Derived.Lib.LaidSlice
import Derived.Lib.LaidU8
import Derived.Lib.LaidPrint
import Derived.PinnedBridge
import Derived.ProofKit
import Derived.SizedLaws
import Derived.Carry
namespace Go.Proofs.Qxb6614942aDoor
open Go.ChangeShapes Go.WideShapes Go.ChangeAt Go.RowKit Go.Lib

theorem own : ownKnob Tryd.prog.godebug = none := by kernel_rfl
theorem laidOut : laidOutB Tryd.prog = true := by kernel_rfl
theorem cells5 : Tryd.prog.cellsOf 5 = 1 := by kernel_rfl

/-- A block's cells laid anew. -/
def put (h : Array Obj) (g : Nat) (cs : Array Value) : Array Obj := h.modify g fun
  | .cells _ t frozen => .cells cs t frozen
  | o => o
def accCells : Array Value := ([128, 191, 160, 191, 128, 159, 144, 191, 128, 143, 0, 0, 0, 0, 0, 0, 0, 0, 0, 0, 0, 0, 0, 0, 0, 0, 0, 0, 0, 0, 0, 0].map (Value.int .u8)).toArray
def shortText : List UInt8 := [115, 104, 111, 114, 116, 32, 119, 114, 105, 116, 101]

def laidWorld (P : Program) (os : Os) : World :=
  let N := (World.settled P os).heap.size
  let T := Lib.goPrintTabs
  let w0 := World.holding P os ⟨#[
    .cells (intCellsOf .u16 T.p16) 76, .cells (intCellsOf .u16 T.n16) 76, .cells (intCellsOf .u32 T.p32) 80, .cells (intCellsOf .u16 T.n32) 76, .cells (intCellsOf .u16 Go.Pinned.isGraphicZ) 76,
    .cells #[.string ⟨shortText.toArray⟩] 104], #[], []⟩
  let h1 := put w0.heap 2 (Lib.firstTab.map fun z => Value.int .u8 z).toArray
  let h2 := put h1 3 accCells
  let h3 := put h2 4 #[.slice (some ⟨N, 0, none⟩) T.p16.length T.p16.length]
  let h4 := put h3 5 #[.slice (some ⟨N + 1, 0, none⟩) T.n16.length T.n16.length]
  let h5 := put h4 6 #[.slice (some ⟨N + 2, 0, none⟩) T.p32.length T.p32.length]
  let h6 := put h5 7 #[.slice (some ⟨N + 3, 0, none⟩) T.n32.length T.n32.length]
  let h7 := put h6 8 #[.slice (some ⟨N + 4, 0, none⟩) Go.Pinned.isGraphicZ.length Go.Pinned.isGraphicZ.length]
  let h8 := put h7 0 #[.iface 83 (.pointer (some ⟨N + 5, 0, none⟩))]
  { w0 with heap := h8 }

set_option maxRecDepth 1000000 in
theorem piece0 (os : Os) (args : Array Value) : LaidIn Tryd.prog ((laidWorld Tryd.prog os).forCall (fun _ _ => 0) ⟨#[], args, []⟩).memory (Rows.fnListEndIsTheByteAfterEachNameRow.laid.take 2) [3, 0, (World.settled Tryd.prog default).heap.size + 5] :=
  LaidIn.of_run [3, 0, (World.settled Tryd.prog default).heap.size + 5] 10 (by kernel_rfl) (by kernel_rfl) (by kernel_rfl) (by kernel_rfl)

set_option maxRecDepth 100000 in
theorem graphic_eq : Go.Pinned.isGraphic = sliceData .u16 Go.Pinned.isGraphicZ := by kernel_rfl
set_option maxRecDepth 1000000 in
theorem pieceG (os : Os) (args : Array Value) : LaidIn Tryd.prog ((laidWorld Tryd.prog os).forCall (fun _ _ => 0) ⟨#[], args, []⟩).memory [("strconv.isGraphic", Rows.laid_strconv_isGraphic)] [8, (World.settled Tryd.prog default).heap.size + 4] := by
  have h := laidIn_slice (P := Tryd.prog) (w := ((laidWorld Tryd.prog os).forCall (fun _ _ => 0) ⟨#[], args, []⟩).memory) (name := "strconv.isGraphic") (g := 8) (k := .u16) (t := 77) (e := 76) (te := 76) Go.Pinned.isGraphicZ ((World.settled Tryd.prog default).heap.size + 4) (by kernel_rfl) (by kernel_rfl) (by kernel_rfl) (by kernel_rfl) (by kernel_rfl) (by kernel_rfl) (by kernel_rfl) (by kernel_rfl) (of_decide_eq_true (by kernel_rfl)) (of_decide_eq_true (by kernel_rfl))
  rw [← graphic_eq] at h
  exact h
set_option maxRecDepth 1000000 in
theorem pieceN16 (os : Os) (args : Array Value) : LaidIn Tryd.prog ((laidWorld Tryd.prog os).forCall (fun _ _ => 0) ⟨#[], args, []⟩).memory [("strconv.isNotPrint16", Rows.laid_strconv_isNotPrint16)] [5, (World.settled Tryd.prog default).heap.size + 1] := by
  have h := laidIn_slice (P := Tryd.prog) (w := ((laidWorld Tryd.prog os).forCall (fun _ _ => 0) ⟨#[], args, []⟩).memory) (name := "strconv.isNotPrint16") (g := 5) (k := .u16) (t := 77) (e := 76) (te := 76) Lib.goPrintTabs.n16 ((World.settled Tryd.prog default).heap.size + 1) (by kernel_rfl) (by kernel_rfl) (by kernel_rfl) (by kernel_rfl) (by kernel_rfl) (by kernel_rfl) (by kernel_rfl) (by kernel_rfl) (of_decide_eq_true (by kernel_rfl)) (of_decide_eq_true (by kernel_rfl))
  rw [← Pinned.isNotPrint16_eq] at h
  exact h
set_option maxRecDepth 1000000 in
theorem pieceN32 (os : Os) (args : Array Value) : LaidIn Tryd.prog ((laidWorld Tryd.prog os).forCall (fun _ _ => 0) ⟨#[], args, []⟩).memory [("strconv.isNotPrint32", Rows.laid_strconv_isNotPrint32)] [7, (World.settled Tryd.prog default).heap.size + 3] := by
  have h := laidIn_slice (P := Tryd.prog) (w := ((laidWorld Tryd.prog os).forCall (fun _ _ => 0) ⟨#[], args, []⟩).memory) (name := "strconv.isNotPrint32") (g := 7) (k := .u16) (t := 77) (e := 76) (te := 76) Lib.goPrintTabs.n32 ((World.settled Tryd.prog default).heap.size + 3) (by kernel_rfl) (by kernel_rfl) (by kernel_rfl) (by kernel_rfl) (by kernel_rfl) (by kernel_rfl) (by kernel_rfl) (by kernel_rfl) (of_decide_eq_true (by kernel_rfl)) (of_decide_eq_true (by kernel_rfl))
  rw [← Pinned.isNotPrint32_eq] at h
  exact h
set_option maxRecDepth 1000000 in
theorem pieceP16 (os : Os) (args : Array Value) : LaidIn Tryd.prog ((laidWorld Tryd.prog os).forCall (fun _ _ => 0) ⟨#[], args, []⟩).memory [("strconv.isPrint16", Rows.laid_strconv_isPrint16)] [4, (World.settled Tryd.prog default).heap.size + 0] := by
  have h := laidIn_slice (P := Tryd.prog) (w := ((laidWorld Tryd.prog os).forCall (fun _ _ => 0) ⟨#[], args, []⟩).memory) (name := "strconv.isPrint16") (g := 4) (k := .u16) (t := 77) (e := 76) (te := 76) Lib.goPrintTabs.p16 ((World.settled Tryd.prog default).heap.size + 0) (by kernel_rfl) (by kernel_rfl) (by kernel_rfl) (by kernel_rfl) (by kernel_rfl) (by kernel_rfl) (by kernel_rfl) (by kernel_rfl) (of_decide_eq_true (by kernel_rfl)) (of_decide_eq_true (by kernel_rfl))
  rw [← Pinned.isPrint16_eq] at h
  exact h
set_option maxRecDepth 1000000 in
theorem pieceP32 (os : Os) (args : Array Value) : LaidIn Tryd.prog ((laidWorld Tryd.prog os).forCall (fun _ _ => 0) ⟨#[], args, []⟩).memory [("strconv.isPrint32", Rows.laid_strconv_isPrint32)] [6, (World.settled Tryd.prog default).heap.size + 2] := by
  have h := laidIn_slice (P := Tryd.prog) (w := ((laidWorld Tryd.prog os).forCall (fun _ _ => 0) ⟨#[], args, []⟩).memory) (name := "strconv.isPrint32") (g := 6) (k := .u32) (t := 81) (e := 80) (te := 80) Lib.goPrintTabs.p32 ((World.settled Tryd.prog default).heap.size + 2) (by kernel_rfl) (by kernel_rfl) (by kernel_rfl) (by kernel_rfl) (by kernel_rfl) (by kernel_rfl) (by kernel_rfl) (by kernel_rfl) (of_decide_eq_true (by kernel_rfl)) (of_decide_eq_true (by kernel_rfl))
  rw [← Pinned.isPrint32_eq] at h
  exact h
set_option maxRecDepth 1000000 in
theorem pieceF (os : Os) (args : Array Value) : LaidIn Tryd.prog ((laidWorld Tryd.prog os).forCall (fun _ _ => 0) ⟨#[], args, []⟩).memory (Rows.fnListEndIsTheByteAfterEachNameRow.laid.drop 7) [2] :=
  LaidIn.of_run [2] 8 (by kernel_rfl) (by kernel_rfl) (by kernel_rfl) (by kernel_rfl)

/-- All eight. -/
theorem laid_met (os : Os) (args : Array Value) : laidMet Tryd.prog Rows.fnListEndIsTheByteAfterEachNameRow.laid ((laidWorld Tryd.prog os).forCall (fun _ _ => 0) ⟨#[], args, []⟩).memory :=
  ((((((piece0 os args).append (pieceG os args) (by kernel_rfl)).append (pieceN16 os args) (by kernel_rfl)).append (pieceN32 os args) (by kernel_rfl)).append (pieceP16 os args) (by kernel_rfl)).append (pieceP32 os args) (by kernel_rfl)).append (pieceF os args) (by kernel_rfl) |>.met

theorem accept_eq : Rows.laid_unicode_utf8_acceptRanges (H := Unit) = acceptData := by kernel_rfl

/-- The tables, off 'laid'. -/
theorem tabs_of {W : World} (hL : laidMet Tryd.prog Rows.fnListEndIsTheByteAfterEachNameRow.laid W) : Lib.PrintTabsAt 4 5 6 7 Lib.goPrintTabs W ∧ Lib.Utf8Tabs 2 3 W := by
  have r0 := Lib.laidMet.reads hL (.head _)
  have r3 := Lib.laidMet.reads hL (.tail _ (.tail _ (.tail _ (.head _))))
  have r4 := Lib.laidMet.reads hL (.tail _ (.tail _ (.tail _ (.tail _ (.head _)))))
  have r5 := Lib.laidMet.reads hL (.tail _ (.tail _ (.tail _ (.tail _ (.tail _ (.head _))))))
  have r6 := Lib.laidMet.reads hL (.tail _ (.tail _ (.tail _ (.tail _ (.tail _ (.tail _ (.head _)))))))
  have r7 := Lib.laidMet.reads hL (.tail _ (.tail _ (.tail _ (.tail _ (.tail _ (.tail _ (.tail _ (.head _))))))))
  unfold Rows.laid_strconv_isNotPrint16 at r3
  unfold Rows.laid_strconv_isNotPrint32 at r4
  unfold Rows.laid_strconv_isPrint16 at r5
  unfold Rows.laid_strconv_isPrint32 at r6
  unfold Rows.laid_unicode_utf8_first at r7
  rw [accept_eq] at r0
  rw [Pinned.isNotPrint16_eq] at r3
  rw [Pinned.isNotPrint32_eq] at r4
  rw [Pinned.isPrint16_eq] at r5
  rw [Pinned.isPrint32_eq] at r6
  rw [Pinned.utf8First_eq] at r7
  exact ⟨printTabs_of_reads (ρ := Tryd.lays177_ren) { Tryd.lays177 with } ⟨by kernel_rfl, by kernel_rfl, by kernel_rfl, by kernel_rfl, by kernel_rfl, by kernel_rfl, by kernel_rfl, by kernel_rfl, by kernel_rfl, by kernel_rfl⟩ r5 r3 r6 r4,
    utf8Tabs_of_reads (ρ := Tryd.lays177_ren) { Tryd.lays177 with } ⟨by kernel_rfl, by kernel_rfl, by kernel_rfl, by kernel_rfl, by kernel_rfl, by kernel_rfl, by kernel_rfl⟩ r7 r0⟩

/-- A slice of bytes that comes in. -/
theorem at_of {H : Type} {enc : TypeId × Value → H} {W : World} {base : Nat} {v : Value} {d : DataW H} {ps : List MemPlace} (hval : Value.okWide Tryd.prog W .any base 22 v) (h : DataW.Trod enc Tryd.prog W 0 (fun _ => true) true 22 v d ps) :
    ∃ (x : Option Addr) (c : Nat) (l : List UInt8), v = .slice x l.length c ∧ At W.heap.size W v l := by
  obtain ⟨a1, len, cap, rfl⟩ := okWide_slice Tryd.underlying22 hval
  obtain ⟨fuel, hf⟩ := h
  rcases open_ints Tryd.underlying22 Tryd.underlying5 cells5 hf with ⟨hcs, _⟩ | ⟨a, len', cap', zs, hcs, _, hl, hm, hz, _, hcell, hwz⟩
  · simp [Value.cells] at hcs
    obtain ⟨rfl, rfl, rfl⟩ := hcs
    exact ⟨none, 0, [], rfl, Or.inl ⟨rfl, rfl⟩⟩
  · simp [Value.cells] at hcs
    obtain ⟨rfl, rfl, rfl⟩ := hcs
    simp only [if_true] at hz
    simp only [Value.okWide, Tryd.underlying22, Cell.okWide, Cell.ok, World.has] at hval
    obtain ⟨_, _, _, hsp, row, cells, hsh, _⟩ := hval
    have hblk : a.block < W.heap.size := by
      rcases Nat.lt_or_ge a.block W.heap.size with h' | h'
      · exact h'
      · simp [World.shape?, Array.getElem?_eq_none h'] at hsh
    obtain ⟨ab, ao, asp⟩ := a
    simp only at hsp hblk
    subst hsp
    have hlen : ((zs.take len).map fun n => UInt8.ofNat n.toNat).length = len := by simp; omega
    refine ⟨_, cap, (zs.take len).map fun n => UInt8.ofNat n.toNat, by rw [hlen], Or.inr ⟨ab, ao, cap, by rw [hlen], by rw [hlen]; exact hl, hm, hblk, fun j x hj => ?_⟩⟩
    have hjl : j < len := by have := (List.getElem?_eq_some_iff.1 hj).1; rw [hlen] at this; exact this
    rw [List.getElem?_map, List.getElem?_take] at hj
    have hjz : j < zs.length := by omega
    rw [if_pos hjl, List.getElem?_eq_getElem hjz] at hj
    simp only [Option.map_some, Option.some.injEq] at hj
    have hc := hcell j hjz
    rw [add_row] at hc
    rw [hc]
    have hw := hwz zs[j] (List.getElem_mem hjz)
    have hg : zs.getD j 0 = zs[j] := by simp [List.getD, hjz]
    rw [hg, ← hj]
    have hr : 0 ≤ zs[j] ∧ zs[j] ≤ 255 := by
      simpa [Lit.wf, IntKind.min, IntKind.max, IntKind.signed, IntKind.bits] using hw
    congr 2
    simp
    omega

end Go.Proofs.Qxb6614942aDoor
