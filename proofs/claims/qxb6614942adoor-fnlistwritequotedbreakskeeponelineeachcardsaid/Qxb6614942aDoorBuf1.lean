/-
  THE WALKS (buffer 1): (*bytes.Buffer).grow, said exactly: which block the new row is. After the shelf's own texts (Derived/Shelf/Bytes/GrowRowOwn.lean, GrowNilOwn.lean), turned to this program's numbers.
-/
import Derived.Test.Qxb6614942aDoorRows
import Derived.Test.Qxb6614942aDoorShelf
import Derived.Lib.BufferGrow
import Derived.Lib.BufferWrite
import Derived.Lib.BufferSrc
import Derived.Lib.BufferOwn
import Derived.Lib.Hide
import Derived.Laws.IdiomCopy
import Derived.WalkKit
import Derived.WalkSpells
import Derived.WalkLawsBesides
import Derived.Deep.RegionWith
import Derived.BigCall
import Derived.BigGuard
import Derived.Deep.DrawnRows
namespace Go.Proofs.Qxb6614942aDoor
open Go.RowKit

attribute [local go_sem] Go.wp_at_zero Go.wp_at_succ

/-- A bytes.Buffer of the call's own, only written, its row's block told. -/
def Buf (B b : Nat) (gO : Option Nat) (bs : List Value) (w : World) : Prop :=
  B ≤ b ∧ ∃ v lr, w.heap[b]? = some (.cells #[v, .int .i64 0, .int .i8 lr] 53 (0, 0)) ∧ w.ownsRow B 5 1 v bs.length bs ∧ v.ownBlock = gO ∧ gO ≠ some b

theorem Buf.cases {B b : Nat} {gO : Option Nat} {bs : List Value} {w : World} (h : Buf B b gO bs w) :
    B ≤ b ∧ ∃ lr, (gO = none ∧ bs = [] ∧ w.heap[b]? = some (.cells #[.slice none 0 0, .int .i64 0, .int .i8 lr] 53 (0, 0))) ∨
      ∃ g cap cur, gO = some g ∧ w.heap[b]? = some (.cells #[.slice (some ⟨g, 0, none⟩) bs.length cap, .int .i64 0, .int .i8 lr] 53 (0, 0)) ∧ B ≤ g ∧ w.heap[g]? = some (.cells cur 5 (0, 0)) ∧ bs.length ≤ cap ∧ cap ≤ maxLen ∧ cur.size = cap ∧ cur.toList.take bs.length = bs ∧ g ≠ b := by
  obtain ⟨hB, v, lr, hbk, hown, hv, hne⟩ := h
  refine ⟨hB, lr, ?_⟩
  rcases hown.2 with ⟨rfl, h0⟩ | ⟨g, cap, cur, rfl, hBg, hg, hnc, hcm, hcs, htk⟩
  · exact Or.inl ⟨hv.symm, List.eq_nil_of_length_eq_zero h0, hbk⟩
  · refine Or.inr ⟨g, cap, cur, hv.symm, hbk, hBg, hg, hnc, hcm, by simpa using hcs, by simpa using htk, fun e => hne (by rw [← hv]; simp [Value.ownBlock, e])⟩

theorem buf_mk {B b g l cap : Nat} {lr : Int} {cur : Array Value} {w : World} (hB : B ≤ b)
    (hbk : w.heap[b]? = some (.cells #[.slice (some ⟨g, 0, none⟩) l cap, .int .i64 0, .int .i8 lr] 53 (0, 0))) (hBg : B ≤ g) (hg : w.heap[g]? = some (.cells cur 5 (0, 0)))
    (hn : l ≤ cap) (hcm : cap ≤ maxLen) (hcs : cur.size = cap) (hgb : g ≠ b) : Buf B b (some g) (cur.toList.take l) w := by
  have hl : (cur.toList.take l).length = l := by rw [List.length_take, Array.length_toList]; omega
  refine ⟨hB, _, lr, hbk, ⟨by simp, .inr ⟨g, cap, cur, by rw [hl], hBg, hg, by omega, hcm, by omega, by rw [hl, Nat.mul_one]⟩⟩, rfl, fun e => hgb (Option.some.inj e)⟩

theorem Buf.isBuffer {B b : Nat} {gO : Option Nat} {bs : List Value} {w : World} (h : Buf B b gO bs w) : Lib.IsBuffer 53 5 B b bs w := by
  obtain ⟨hB, v, lr, hbk, hown, hv, hne⟩ := h
  exact ⟨hB, v, lr, hbk, hown, by rw [hv]; exact hne⟩

/-- grow's end: what was laid anew. -/
theorem grow_end {B b l n cap2 : Nat} {x0 : Value} {lr : Int} {cells : Array Value} {bs : List Value} {w2 : World} {N : Nat} (hB : B ≤ b)
    (hbk : w2.heap[b]? = some (.cells #[x0, .int .i64 0, .int .i8 lr] 53 (0, 0))) (hN : w2.heap[N]? = some (.cells cells 5 (0, 0))) (hBN : B ≤ N) (hNb : N ≠ b) (hcsz : cells.size = cap2) (htk : cells.toList.take l = bs) (hcap : l + n ≤ cap2) (hcm : cap2 ≤ maxLen) (v1 : Value) :
    ∃ xs, xs.length = n ∧ Buf B b (some N) (bs ++ xs) (((w2.setCell ⟨b, 0, none⟩ v1).setCell ⟨b, 1, none⟩ (.int .i64 0)).setCell ⟨b, 0, none⟩ (.slice (some ⟨N, 0, none⟩) (l + n) cap2)) := by
  have h1 : (w2.setCell ⟨b, 0, none⟩ v1).heap[b]? = some (.cells #[v1, .int .i64 0, .int .i8 lr] 53 (0, 0)) := Lib.heap_setCell_same (i := 0) hbk v1
  have h2 : ((w2.setCell ⟨b, 0, none⟩ v1).setCell ⟨b, 1, none⟩ (.int .i64 0)).heap[b]? = some (.cells #[v1, .int .i64 0, .int .i8 lr] 53 (0, 0)) := Lib.heap_setCell_same (i := 1) h1 _
  have h3 : (((w2.setCell ⟨b, 0, none⟩ v1).setCell ⟨b, 1, none⟩ (.int .i64 0)).setCell ⟨b, 0, none⟩ (.slice (some ⟨N, 0, none⟩) (l + n) cap2)).heap[b]? = some (.cells #[.slice (some ⟨N, 0, none⟩) (l + n) cap2, .int .i64 0, .int .i8 lr] 53 (0, 0)) := Lib.heap_setCell_same (i := 0) h2 _
  have g3 : (((w2.setCell ⟨b, 0, none⟩ v1).setCell ⟨b, 1, none⟩ (.int .i64 0)).setCell ⟨b, 0, none⟩ (.slice (some ⟨N, 0, none⟩) (l + n) cap2)).heap[N]? = some (.cells cells 5 (0, 0)) := by
    rw [Below.heap_setCell _ _ _ _ hNb, Below.heap_setCell _ _ _ _ hNb, Below.heap_setCell _ _ _ _ hNb]; exact hN
  have h := buf_mk hB h3 hBN g3 hcap hcm hcsz hNb
  obtain ⟨xs, hxl, hxs⟩ := Lib.take_split cells.toList l n (by have : cells.toList.length = cells.size := Array.length_toList; omega)
  rw [hxs, htk] at h
  exact ⟨xs, hxl, h⟩

/-- The same, behind draws and a callee that turned nothing old. -/
theorem grow_close {B b l n cap2 k : Nat} {x0 : Value} {lr : Int} {cells : Array Value} {bs : List Value} {w wd w2 : World} (hB : B ≤ b) (hBw : B ≤ w.heap.size) (hbw : b < w.heap.size) (hwd : wd = w.drewN k) (hbel : Below wd.drew.heap.size wd.drew w2)
    (hbk : w2.heap[b]? = some (.cells #[x0, .int .i64 0, .int .i8 lr] 53 (0, 0))) (hN : w2.heap[wd.drew.heap.size]? = some (.cells cells 5 (0, 0))) (hcsz : cells.size = cap2) (htk : cells.toList.take l = bs) (hcap : l + n ≤ cap2) (hcm : cap2 ≤ maxLen) (v1 : Value) :
    ∃ xs, xs.length = n ∧ Buf B b (some w.heap.size) (bs ++ xs) (((w2.setCell ⟨b, 0, none⟩ v1).setCell ⟨b, 1, none⟩ (.int .i64 0)).setCell ⟨b, 0, none⟩ (.slice (some ⟨wd.heap.size, 0, none⟩) (l + n) cap2)) ∧
      w.grownBy (((w2.setCell ⟨b, 0, none⟩ v1).setCell ⟨b, 1, none⟩ (.int .i64 0)).setCell ⟨b, 0, none⟩ (.slice (some ⟨wd.heap.size, 0, none⟩) (l + n) cap2)) (some b) := by
  subst hwd
  have hsz : (w.drewN k).drew.heap.size = w.heap.size := rfl
  have hsz' : (w.drewN k).heap.size = w.heap.size := rfl
  rw [hsz] at hN hbel
  rw [hsz']
  obtain ⟨xs, q1, q2⟩ := grow_end (n := n) hB hbk hN hBw (by omega) hcsz htk hcap hcm v1
  refine ⟨xs, q1, q2, Lib.grownBy_setB (Lib.grownBy_setB (Lib.grownBy_setB ?_ 0 _) 1 _) 0 _⟩
  exact ⟨hbel.os, hbel.tape, hbel.output, hbel.size, fun i hi _ => hbel.block i hi⟩

set_option maxHeartbeats 1600000 in
set_option maxRecDepth 100000 in
theorem grow_row (B b g l cap n : Nat) (lr : Int) (cur : Array Value) (bs : List Value) (w : World) (hB : B ≤ b) (hBw : B ≤ w.heap.size)
    (hbk : w.heap[b]? = some (.cells #[.slice (some ⟨g, 0, none⟩) l cap, .int .i64 0, .int .i8 lr] 53 (0, 0)))
    (hl : bs.length = l) (hBg : B ≤ g) (hg : w.heap[g]? = some (.cells cur 5 (0, 0))) (hlc : l ≤ cap) (hcm : cap ≤ maxLen) (hcs : cur.size = cap) (htake : cur.toList.take l = bs) (hgb : g ≠ b)
    (h1 : ∀ v ∈ bs, v.oneCell' = true) (hn : 1 ≤ n) (hroom : cap - l < n) (hlim : l + n ≤ 140737488355328) :
    Calls Tryd.prog 61 #[.pointer (some ⟨b, 0, none⟩), .int .i64 n] w fun e w' => e = .returned (.int .i64 l) ∧ ∃ xs, xs.length = n ∧ Buf B b (some w.heap.size) (bs ++ xs) w' ∧ w.grownBy w' (some b) := by
  have hIs : Lib.IsBuffer 53 5 B b bs w := ⟨hB, _, _, hbk, ⟨by rw [hl, Nat.mul_one], .inr ⟨g, cap, cur, by rw [hl], hBg, hg, by omega, hcm, by omega, by rw [hl, Nat.mul_one]; exact htake⟩⟩, by simp [Value.ownBlock]; exact hgb⟩
  have hnil : ∀ W, (binOp .eql 22 (.slice (some ⟨g, 0, none⟩) l cap) (.slice none 0 0)).run Tryd.prog W = .ok (.bool false) W := fun W => Lib.run_eql_slice_some_nil W _ _ _ Tryd.underlying22
  go_enter Tryd.func61, Tryd.ntmps61
  go_wp2_with (go_at_call 62; refine (Tryd.Buffer_Len B b bs _ hIs).mono ?_)
  rintro e W0 ⟨rfl, k, hW0⟩
  rw [hl]
  have hbk0 : W0.heap[b]? = some (.cells #[.slice (some ⟨g, 0, none⟩) l cap, .int .i64 0, .int .i8 lr] 53 (0, 0)) := by rw [hW0]; exact hbk
  have hg0 : W0.heap[g]? = some (.cells cur 5 (0, 0)) := by rw [hW0]; exact hg
  have c0 : W0.cell? ⟨b, 0, none⟩ = some (.slice (some ⟨g, 0, none⟩) l cap) := by rw [Lib.cell_of_heap hbk0]; rfl
  have c1 : W0.cell? ⟨b, 1, none⟩ = some (.int .i64 0) := by rw [Lib.cell_of_heap hbk0]; rfl
  have f0 : W0.frozen? ⟨b, 0, none⟩ = false := Lib.frozen_of_heap hbk0 0
  have f1 : W0.frozen? ⟨b, 1, none⟩ = false := Lib.frozen_of_heap hbk0 1
  have HW0 := Lib.hid hW0
  clear hW0 hIs
  have hcm' := hcm
  unfold maxLen at hcm'
  have hc2 : cap ≤ 140737488355328 := by omega
  have h1' : ∀ v ∈ cur.toList.take l, v.oneCell' = true := by rw [htake]; exact h1
  have hbW := Lib.lt_of_heap hbk0
  have hwn : IntKind.i64.wrap (n : Int) = n := by rw [IntKind.wrap_i64]; omega
  have hsz0 : W0.heap.size = w.heap.size := by rw [HW0.out]; rfl
  have HS := Lib.hid hsz0
  clear hsz0
  by_cases hl0 : ((l : Int) == 0) = true
  all_goals first | (have hl0' : ((l : Int) == 0) = false := by simpa using hl0); clear hl0 | skip
  all_goals
    go_wp2_with (go_at_call 60; refine (Tryd.Buffer_tryGrow_none b _ l cap n _ c0 hlc hcm hroom).mono ?_; rintro e w' ⟨rfl, rfl⟩)
    go_region_with (
      go_at_call 63
      refine (Tryd.bytes_growSlice_row g l cap n cur _ ?_ hcs hlc hn hlim hc2 h1').mono ?_
      exact hg0
      rintro e w2 ⟨cap2, cells, rfl, hN, hcsz, htk, hcap2, hcm2, hbel⟩
      have hbk2 : w2.heap[b]? = some (.cells #[.slice (some ⟨g, 0, none⟩) l cap, .int .i64 0, .int .i8 lr] 53 (0, 0)) := (hbel.block b hbW).trans hbk0
      have d0 : w2.cell? ⟨b, 0, none⟩ = some (.slice (some ⟨g, 0, none⟩) l cap) := by rw [Lib.cell_of_heap hbk2]; rfl
      have d1 : w2.cell? ⟨b, 1, none⟩ = some (.int .i64 0) := by rw [Lib.cell_of_heap hbk2]; rfl
      have e0 : w2.frozen? ⟨b, 0, none⟩ = false := Lib.frozen_of_heap hbk2 0
      have e1 : w2.frozen? ⟨b, 1, none⟩ = false := Lib.frozen_of_heap hbk2 1)
  all_goals
    go_wp2
    go_ret
    exact ⟨rfl, grow_close hB hBw (Lib.lt_of_heap hbk) HW0.out hbel hbk2 hN hcsz (htk.trans htake) hcap2 hcm2 _⟩

set_option maxHeartbeats 1600000 in
set_option maxRecDepth 100000 in
theorem grow_nil_big (B b n : Nat) (lr : Int) (w : World) (hB : B ≤ b) (hBw : B ≤ w.heap.size)
    (hbk : w.heap[b]? = some (.cells #[.slice none 0 0, .int .i64 0, .int .i8 lr] 53 (0, 0))) (h64 : 64 < n) (hlim : n ≤ 140737488355328) :
    Calls Tryd.prog 61 #[.pointer (some ⟨b, 0, none⟩), .int .i64 n] w fun e w' => e = .returned (.int .i64 0) ∧ ∃ xs, xs.length = n ∧ Buf B b (some w.heap.size) ([] ++ xs) w' ∧ w.grownBy w' (some b) := by
  have hn : 1 ≤ n := by omega
  have hIs : Lib.IsBuffer 53 5 B b [] w := ⟨hB, _, _, hbk, World.ownsRow_nil _ _ _ _, by simp [Value.ownBlock]⟩
  have hnil : ∀ W, (binOp .eql 22 (.slice none 0 0) (.slice none 0 0)).run Tryd.prog W = .ok (.bool true) W := fun W => Lib.run_eql_slice_nil_nil W _ _ Tryd.underlying22
  go_enter Tryd.func61, Tryd.ntmps61
  go_wp2_with (go_at_call 62; refine (Tryd.Buffer_Len B b [] _ hIs).mono ?_)
  rintro e W0 ⟨rfl, k, hW0⟩
  have hbk0 : W0.heap[b]? = some (.cells #[.slice none 0 0, .int .i64 0, .int .i8 lr] 53 (0, 0)) := by rw [hW0]; exact hbk
  have c0 : W0.cell? ⟨b, 0, none⟩ = some (.slice none 0 0) := by rw [Lib.cell_of_heap hbk0]; rfl
  have c1 : W0.cell? ⟨b, 1, none⟩ = some (.int .i64 0) := by rw [Lib.cell_of_heap hbk0]; rfl
  have f0 : W0.frozen? ⟨b, 0, none⟩ = false := Lib.frozen_of_heap hbk0 0
  have f1 : W0.frozen? ⟨b, 1, none⟩ = false := Lib.frozen_of_heap hbk0 1
  have HW0 := Lib.hid hW0
  clear hW0 hIs
  have hbW := Lib.lt_of_heap hbk0
  have hwn : IntKind.i64.wrap (n : Int) = n := by rw [IntKind.wrap_i64]; omega
  go_wp2_with (go_at_call 60; refine (Tryd.Buffer_tryGrow_none b _ 0 0 n _ c0 (Nat.le_refl _) (Nat.zero_le _) (by omega)).mono ?_; rintro e w' ⟨rfl, rfl⟩)
  go_region_with (
      go_at_call 63
      refine (Tryd.bytes_growSlice_nil n _ hn hlim).mono ?_
      rintro e w2 ⟨cap2, cells, rfl, hN, hcsz, hcap2, hcm2, hbel⟩
      have hbk2 : w2.heap[b]? = some (.cells #[.slice none 0 0, .int .i64 0, .int .i8 lr] 53 (0, 0)) := (hbel.block b hbW).trans hbk0
      have d0 : w2.cell? ⟨b, 0, none⟩ = some (.slice none 0 0) := by rw [Lib.cell_of_heap hbk2]; rfl
      have d1 : w2.cell? ⟨b, 1, none⟩ = some (.int .i64 0) := by rw [Lib.cell_of_heap hbk2]; rfl
      have e0 : w2.frozen? ⟨b, 0, none⟩ = false := Lib.frozen_of_heap hbk2 0
      have e1 : w2.frozen? ⟨b, 1, none⟩ = false := Lib.frozen_of_heap hbk2 1)
  all_goals
    go_wp2
    go_ret
    have hq := grow_close (l := 0) (n := n) (bs := []) hB hBw (Lib.lt_of_heap hbk) HW0.out hbel hbk2 hN hcsz (by simp) (by omega) hcm2 (.slice (some ⟨w'.heap.size, 0, none⟩) 0 cap2)
    simp only [Nat.zero_add] at hq
    exact ⟨rfl, hq⟩

end Go.Proofs.Qxb6614942aDoor
