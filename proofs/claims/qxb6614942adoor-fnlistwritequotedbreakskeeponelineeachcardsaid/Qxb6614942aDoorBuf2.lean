/-
  THE WALKS (buffer 2): grow on a nil row, few bytes; grow, whatever the row; (*bytes.Buffer).Write and WriteString, said with their whole frame.
-/
import Derived.Test.Qxb6614942aDoorBuf1
namespace Go.Proofs.Qxb6614942aDoor
open Go.RowKit

attribute [local go_sem] Go.wp_at_zero Go.wp_at_succ

theorem small_end {B b n k : Nat} {lr : Int} {M : Array Value} {w wd : World} (hB : B ≤ b) (hBw : B ≤ w.heap.size) (hbw : b < w.heap.size) (hwd : wd = w.drewN k)
    (hbk : wd.heap[b]? = some (.cells #[.slice none 0 0, .int .i64 0, .int .i8 lr] 53 (0, 0))) (hMs : M.size = 64) (h64 : n ≤ 64) :
    ∃ xs, xs.length = n ∧ Buf B b (some w.heap.size) xs ((wd.setCell ⟨b, 0, none⟩ (.slice (some ⟨wd.heap.size, 0, none⟩) n 64)).alloc (.cells M 5)) ∧
      w.grownBy ((wd.setCell ⟨b, 0, none⟩ (.slice (some ⟨wd.heap.size, 0, none⟩) n 64)).alloc (.cells M 5)) (some b) := by
  subst hwd
  have hsz2 : ((w.drewN k).setCell ⟨b, 0, none⟩ (.slice (some ⟨(w.drewN k).heap.size, 0, none⟩) n 64)).heap.size = w.heap.size := by simp [World.setCell]
  have h1 : (((w.drewN k).setCell ⟨b, 0, none⟩ (.slice (some ⟨(w.drewN k).heap.size, 0, none⟩) n 64)).alloc (.cells M 5)).heap[b]? = some (.cells #[.slice (some ⟨w.heap.size, 0, none⟩) n 64, .int .i64 0, .int .i8 lr] 53 (0, 0)) := by
    rw [Below.heap_alloc _ _ _ (by omega)]
    exact Lib.heap_setCell_same (i := 0) hbk _
  have h2 : (((w.drewN k).setCell ⟨b, 0, none⟩ (.slice (some ⟨(w.drewN k).heap.size, 0, none⟩) n 64)).alloc (.cells M 5)).heap[w.heap.size]? = some (.cells M 5 (0, 0)) := by
    have := heap_alloc_new ((w.drewN k).setCell ⟨b, 0, none⟩ (.slice (some ⟨(w.drewN k).heap.size, 0, none⟩) n 64)) (.cells M 5)
    rw [hsz2] at this
    exact this
  have h := buf_mk hB h1 hBw h2 h64 (by unfold maxLen; omega) hMs (by omega)
  refine ⟨M.toList.take n, by simp [hMs]; omega, h, ?_⟩
  have hd : w.grownBy (w.drewN k) (some b) := ⟨rfl, rfl, rfl, Nat.le_refl _, fun _ _ _ => rfl⟩
  exact Lib.grownBy_allocR (Lib.grownBy_setB hd 0 _) _

set_option maxHeartbeats 1600000 in
set_option maxRecDepth 100000 in
theorem grow_nil_small (B b n : Nat) (lr : Int) (w : World) (hB : B ≤ b) (hBw : B ≤ w.heap.size)
    (hbk : w.heap[b]? = some (.cells #[.slice none 0 0, .int .i64 0, .int .i8 lr] 53 (0, 0))) (hn : 1 ≤ n) (h64 : n ≤ 64) :
    Calls Tryd.prog 61 #[.pointer (some ⟨b, 0, none⟩), .int .i64 n] w fun e w' => e = .returned (.int .i64 0) ∧ ∃ xs, xs.length = n ∧ Buf B b (some w.heap.size) ([] ++ xs) w' ∧ w.grownBy w' (some b) := by
  obtain ⟨i0, hi, hz0, hz1, hz2⟩ : ∃ i0, Tryd.prog.info? 5 = some i0 ∧ i0.zero = some (.int .u8 0) ∧ i0.size = 1 ∧ i0.bytes = 1 := ⟨_, rfl, rfl, rfl, rfl⟩
  obtain ⟨M, hM⟩ : ∃ M, M = madeCells (Value.int .u8 0).cells ((64 : Int).toNat * i0.size) := ⟨_, rfl⟩
  have hMs : M.size = 64 := by rw [hM, size_madeCells, hz1]; rfl
  have hmk : ∀ W : World, (Instr.makeSlice 22 (.int .i64 (n : Int)) (.int .i64 64)).run Tryd.prog W = .ok (.slice (some ⟨W.heap.size, 0, none⟩) n 64) (W.alloc (.cells M 5)) := fun W => by
    have h := run_makeSlice (P := Tryd.prog) W 22 5 i0 (.int .u8 0) Tryd.underlying22 hi hz0 .i64 .i64 (n : Int) 64 (by omega) (by omega) (by rw [hz1]; decide) (by rw [hz2]; decide) (by decide)
    rw [← hM] at h
    simpa using h
  clear hM
  have hIs : Lib.IsBuffer 53 5 B b [] w := ⟨hB, _, _, hbk, World.ownsRow_nil _ _ _ _, by simp [Value.ownBlock]⟩
  have hnil : ∀ W, (binOp .eql 22 (.slice none 0 0) (.slice none 0 0)).run Tryd.prog W = .ok (.bool true) W := fun W => Lib.run_eql_slice_nil_nil W _ _ Tryd.underlying22
  clear hz0 hz1 hz2 hi
  go_enter Tryd.func61, Tryd.ntmps61
  go_wp2_with (go_at_call 62; refine (Tryd.Buffer_Len B b [] _ hIs).mono ?_)
  rintro e W0 ⟨rfl, k, hW0⟩
  have hbk0 : W0.heap[b]? = some (.cells #[.slice none 0 0, .int .i64 0, .int .i8 lr] 53 (0, 0)) := by rw [hW0]; exact hbk
  have c0 : W0.cell? ⟨b, 0, none⟩ = some (.slice none 0 0) := by rw [Lib.cell_of_heap hbk0]; rfl
  have c1 : W0.cell? ⟨b, 1, none⟩ = some (.int .i64 0) := by rw [Lib.cell_of_heap hbk0]; rfl
  have f0 : W0.frozen? ⟨b, 0, none⟩ = false := Lib.frozen_of_heap hbk0 0
  have f1 : W0.frozen? ⟨b, 1, none⟩ = false := Lib.frozen_of_heap hbk0 1
  have hbW0 := Lib.lt_of_heap hbk0
  have c0a : ∀ o, (W0.alloc o).cell? ⟨b, 0, none⟩ = some (.slice none 0 0) := fun o => (World.cell?_of_block (a := ⟨b, 0, none⟩) (Below.heap_alloc W0 o b hbW0)).trans c0
  have f0a : ∀ o, (W0.alloc o).frozen? ⟨b, 0, none⟩ = false := fun o => (World.frozen?_of_block (a := ⟨b, 0, none⟩) (Below.heap_alloc W0 o b hbW0)).trans f0
  have HW0 := Lib.hid hW0
  clear hW0 hIs
  go_wp2_with (go_at_call 60; refine (Tryd.Buffer_tryGrow_none b _ 0 0 n _ c0 (Nat.le_refl _) (Nat.zero_le _) (by omega)).mono ?_; rintro e w' ⟨rfl, rfl⟩)
  go_ret
  exact ⟨rfl, small_end hB hBw (Lib.lt_of_heap hbk) HW0.out hbk0 hMs h64⟩


/-- grow, whatever the row, where there is no room: the row is a new block. -/
theorem grow_any (B b n : Nat) (gO : Option Nat) (bs : List Value) (w : World) (h : Buf B b gO bs w) (hnr : Lib.NoRoom b n w) (hBw : B ≤ w.heap.size) (h1 : ∀ v ∈ bs, v.oneCell' = true) (hlim : bs.length + n ≤ 140737488355328) :
    Calls Tryd.prog 61 #[.pointer (some ⟨b, 0, none⟩), .int .i64 n] w fun e w' => e = .returned (.int .i64 bs.length) ∧ ∃ xs, xs.length = n ∧ Buf B b (some w.heap.size) (bs ++ xs) w' ∧ w.grownBy w' (some b) := by
  obtain ⟨ao, l, cap0, hc, hlt⟩ := hnr
  obtain ⟨hB, lr, hcs⟩ := h.cases
  rcases hcs with ⟨_, rfl, hbk⟩ | ⟨g, cap, cur, _, hbk, hBg, hg, hnc, hcm, hcs, htk, hgb⟩
  · have c0 : w.cell? ⟨b, 0, none⟩ = some (.slice none 0 0) := by rw [Lib.cell_of_heap hbk]; rfl
    rw [c0] at hc
    cases hc
    by_cases h64 : n ≤ 64
    · exact grow_nil_small B b n lr w hB hBw hbk (by omega) h64
    · exact grow_nil_big B b n lr w hB hBw hbk (by omega) (by simpa using hlim)
  · have c0 : w.cell? ⟨b, 0, none⟩ = some (.slice (some ⟨g, 0, none⟩) bs.length cap) := by rw [Lib.cell_of_heap hbk]; rfl
    rw [c0] at hc
    cases hc
    exact grow_row B b g bs.length _ n lr cur bs w hB hBw hbk rfl hBg hg hnc hcm hcs htk hgb h1 (by omega) hlt hlim

/-- tryGrowByReslice, whatever the row. -/
theorem tryGrow_any (B b n : Nat) (gO : Option Nat) (bs : List Value) (w : World) (h : Buf B b gO bs w) :
    Calls Tryd.prog 60 #[.pointer (some ⟨b, 0, none⟩), .int .i64 n] w fun e w' =>
      (e = .returned (.tuple #[.int .i64 bs.length, .bool true]) ∧ ∃ xs, xs.length = n ∧ Buf B b gO (bs ++ xs) w' ∧ w.grownBy w' (some b)) ∨
      (e = .returned (.tuple #[.int .i64 0, .bool false]) ∧ w' = w ∧ Lib.NoRoom b n w) := by
  obtain ⟨hB, lr, hc⟩ := h.cases
  rcases hc with ⟨hg0, rfl, hbk⟩ | ⟨g, cap, cur, hg0, hbk, hBg, hg, hnc, hcm, hcs, htk, hgb⟩
  · have c0 : w.cell? ⟨b, 0, none⟩ = some (.slice none 0 0) := by rw [Lib.cell_of_heap hbk]; rfl
    have f0 := Lib.frozen_of_heap hbk 0
    by_cases hn : n = 0
    · subst hn
      refine (Tryd.Buffer_tryGrow_room b none 0 0 0 w c0 f0 (Nat.le_refl _) (Nat.zero_le _) (Nat.le_refl _)).mono ?_
      rintro e w' ⟨rfl, rfl⟩
      exact Or.inl ⟨rfl, [], rfl, ⟨hB, .slice none 0 0, lr, Lib.heap_setCell_same (i := 0) hbk _, World.ownsRow_nil _ _ _ _, hg0.symm, by rw [hg0]; simp⟩, Lib.grownBy_setCell w b 0 _⟩
    · refine (Tryd.Buffer_tryGrow_none b none 0 0 n w c0 (Nat.le_refl _) (Nat.zero_le _) (by omega)).mono ?_
      rintro e w' ⟨rfl, rfl⟩
      exact Or.inr ⟨rfl, rfl, none, 0, 0, c0, by omega⟩
  · have c0 : w.cell? ⟨b, 0, none⟩ = some (.slice (some ⟨g, 0, none⟩) bs.length cap) := by rw [Lib.cell_of_heap hbk]; rfl
    have f0 := Lib.frozen_of_heap hbk 0
    by_cases hr : n ≤ cap - bs.length
    · refine (Tryd.Buffer_tryGrow_room b _ bs.length cap n w c0 f0 hnc hcm hr).mono ?_
      rintro e w' ⟨rfl, rfl⟩
      obtain ⟨xs, hxl, hxs⟩ := Lib.take_split cur.toList bs.length n (by have : cur.toList.length = cur.size := Array.length_toList; omega)
      have hgf : (w.setCell ⟨b, 0, none⟩ (.slice (some ⟨g, 0, none⟩) (bs.length + n) cap)).heap[g]? = some (.cells cur 5 (0, 0)) := by rw [Below.heap_setCell _ _ _ _ hgb]; exact hg
      have hq := buf_mk hB (Lib.heap_setCell_same (i := 0) hbk (.slice (some ⟨g, 0, none⟩) (bs.length + n) cap)) hBg hgf (by omega) hcm hcs hgb
      rw [hxs, htk] at hq
      exact Or.inl ⟨rfl, xs, hxl, by rw [hg0]; exact hq, Lib.grownBy_setCell w b 0 _⟩
    · refine (Tryd.Buffer_tryGrow_none b _ bs.length cap n w c0 hnc hcm (by omega)).mono ?_
      rintro e w' ⟨rfl, rfl⟩
      exact Or.inr ⟨rfl, rfl, _, _, _, c0, by omega⟩

/-- Of the old blocks none but the buffer's own and its row has turned. -/
structure Two (b : Nat) (gO : Option Nat) (w w' : World) : Prop where
  os : w'.os = w.os
  tape : w'.tape = w.tape
  output : w'.output = w.output
  size : w.heap.size ≤ w'.heap.size
  block : ∀ k, k < w.heap.size → k ≠ b → some k ≠ gO → w'.heap[k]? = w.heap[k]?

theorem Two.of_grown {b : Nat} {gO : Option Nat} {w w' : World} (h : w.grownBy w' (some b)) : Two b gO w w' :=
  ⟨h.os, h.tape, h.output, h.size, fun k hk hb _ => h.block k hk (fun e => hb (Option.some.inj e))⟩

theorem Buf.setLast {B b : Nat} {gO : Option Nat} {bs : List Value} {w : World} (h : Buf B b gO bs w) (x : Int) : Buf B b gO bs (w.setCell ⟨b, 2, none⟩ (.int .i8 x)) := by
  obtain ⟨hB, v, lr, hbk, hown, hv, hne⟩ := h
  exact ⟨hB, v, x, Lib.heap_setCell_same (i := 2) hbk _, hown.kept (Lib.grownBy_setCell w b 2 _) (Or.inr (by rw [hv]; exact hne)), hv, hne⟩

/-- The copy's end: the last cells of the row are written. -/
theorem write_end {B b g cap : Nat} {lr : Int} {cur : Array Value} {gO : Option Nat} {bs xs news : List Value} {w W1 : World} (hB : B ≤ b) (hgr : w.grownBy W1 (some b))
    (hbk : W1.heap[b]? = some (.cells #[.slice (some ⟨g, 0, none⟩) (bs.length + news.length) cap, .int .i64 0, .int .i8 lr] 53 (0, 0))) (hBg : B ≤ g) (hg : W1.heap[g]? = some (.cells cur 5 (0, 0)))
    (hcm : cap ≤ maxLen) (hcs : cur.size = cap) (hgb : g ≠ b) (hn : bs.length + news.length ≤ cap) (hxl : xs.length = news.length) (htk : cur.toList.take (bs.length + news.length) = bs ++ xs) (hgO : some g = gO ∨ w.heap.size ≤ g) :
    Buf B b (some g) (bs ++ news) (W1.setRow g (cur.toList.take bs.length ++ news ++ cur.toList.drop (bs.length + news.length)).toArray) ∧
      Two b gO w (W1.setRow g (cur.toList.take bs.length ++ news ++ cur.toList.drop (bs.length + news.length)).toArray) := by
  have e1 : cur.toList.take bs.length = bs := by
    have h3 := congrArg (List.take bs.length) htk
    rwa [List.take_take, Nat.min_eq_left (Nat.le_add_right _ _), List.take_left' rfl] at h3
  have hl : (cur.toList.take bs.length).length = bs.length := by rw [e1]
  have hbf : (W1.setRow g (cur.toList.take bs.length ++ news ++ cur.toList.drop (bs.length + news.length)).toArray).heap[b]? = some (.cells #[.slice (some ⟨g, 0, none⟩) (bs.length + news.length) cap, .int .i64 0, .int .i8 lr] 53 (0, 0)) := by
    rw [setRow_other _ _ _ _ (Ne.symm hgb)]; exact hbk
  have hsz : (cur.toList.take bs.length ++ news ++ cur.toList.drop (bs.length + news.length)).toArray.size = cap := by
    simp only [List.size_toArray, List.length_append, hl, List.length_drop, Array.length_toList]; omega
  have h := buf_mk hB hbf hBg (setRow_heap W1 g cur _ 5 (0, 0) hg) hn hcm hsz hgb
  have e2 : (cur.toList.take bs.length ++ news ++ cur.toList.drop (bs.length + news.length)).toArray.toList.take (bs.length + news.length) = bs ++ news := by
    rw [List.toList_toArray, List.take_append_of_le_length (by rw [List.length_append, hl]; exact Nat.le_refl _), List.take_of_length_le (by rw [List.length_append, hl]; exact Nat.le_refl _), e1]
  rw [e2] at h
  refine ⟨h, hgr.os, hgr.tape, hgr.output, by simpa using hgr.size, fun k hk hb hgk => ?_⟩
  rw [setRow_other _ _ _ _ (by rintro rfl; rcases hgO with e | e; exact hgk e; omega)]
  exact hgr.block k hk (fun e => hb (Option.some.inj e))

end Go.Proofs.Qxb6614942aDoor
