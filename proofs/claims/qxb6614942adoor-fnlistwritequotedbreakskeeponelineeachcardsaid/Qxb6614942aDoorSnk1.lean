/-
  THE WALKS (sink 1): the bufio.Writer over a bytes.Buffer, as one predicate; Available, Buffered, Flush.
-/
import Derived.Test.Qxb6614942aDoorBuf3
import Derived.Deep.RegionHeld3
import Derived.Deep.QuietTactic
import Derived.BigQuiet
namespace Go.Proofs.Qxb6614942aDoor
open Go.RowKit

attribute [local go_sem] Go.wp_at_zero Go.wp_at_succ

/-- The sink: a bytes.Buffer (block bb, its row gO, holding bs) under a bufio.Writer (block bw, its array bf) that holds cs. -/
structure Snk (KP : Option (Nat × Obj)) (B bb bw bf : Nat) (gO : Option Nat) (bs cs : List Value) (w : World) : Prop where
  buf : Buf B bb gO bs w
  wr : w.heap[bw]? = some (.cells #[.nilIface, .slice (some ⟨bf, 0, none⟩) 4096 4096, .int .i64 cs.length, .iface 29 (.pointer (some ⟨bb, 0, none⟩))] 61 (0, 0))
  arr : ∃ ar, w.heap[bf]? = some (.cells ar 5 (0, 0)) ∧ ar.size = 4096 ∧ ar.toList.take cs.length = cs
  len : cs.length ≤ 4096
  hBw : B ≤ bw
  hBf : B ≤ bf
  n1 : bb ≠ bw
  n2 : bb ≠ bf
  n3 : bw ≠ bf
  g1 : gO ≠ some bw
  g2 : gO ≠ some bf
  one : ∀ v ∈ bs, v.oneCell' = true
  onec : ∀ v ∈ cs, v.oneCell' = true
  kp : ∀ k X, KP = some (k, X) → w.heap[k]? = some X ∧ bb ≠ k ∧ bw ≠ k ∧ bf ≠ k ∧ gO ≠ some k

theorem Snk.size {KP : Option (Nat × Obj)} {B bb bw bf : Nat} {gO : Option Nat} {bs cs : List Value} {w : World} (h : Snk KP B bb bw bf gO bs cs w) : B ≤ w.heap.size := by
  have := Lib.lt_of_heap h.wr
  have := h.hBw
  omega

theorem available_any (bw bf n : Nat) (w : World) (h1 : w.cell? ⟨bw, 1, none⟩ = some (.slice (some ⟨bf, 0, none⟩) 4096 4096)) (h2 : w.cell? ⟨bw, 2, none⟩ = some (.int .i64 n)) (hn : n ≤ 4096) :
    Calls Tryd.prog 27 #[.pointer (some ⟨bw, 0, none⟩)] w fun e w' => e = .returned (.int .i64 (4096 - n)) ∧ ∃ nq, w' = w.drewN nq := by
  go_enter Tryd.func27, Tryd.ntmps27
  go_wp2
  go_quiet (fail)
  go_wp2
  go_ret
  exact ⟨rfl, _, rfl⟩

theorem buffered_any (bw n : Nat) (w : World) (h2 : w.cell? ⟨bw, 2, none⟩ = some (.int .i64 n)) :
    Calls Tryd.prog 28 #[.pointer (some ⟨bw, 0, none⟩)] w fun e w' => e = .returned (.int .i64 n) ∧ w' = w := by
  go_enter Tryd.func28, Tryd.ntmps28
  go_wp2
  go_ret
  exact ⟨rfl, rfl⟩

set_option maxHeartbeats 1000000 in
theorem flush_none (bw : Nat) (w : World) (h0 : w.cell? ⟨bw, 0, none⟩ = some .nilIface) (h2 : w.cell? ⟨bw, 2, none⟩ = some (.int .i64 0)) :
    Calls Tryd.prog 23 #[.pointer (some ⟨bw, 0, none⟩)] w fun e w' => e = .returned .nilIface ∧ w' = w := by
  go_enter Tryd.func23, Tryd.ntmps23
  go_wp2
  go_ret
  exact ⟨rfl, rfl⟩

theorem method_Write (a : Addr) (w : World) : (method 212 29 (.pointer (some a)) "Write").run Tryd.prog w = .ok (58, .pointer (some a)) w := by kernel_rfl
theorem method_WriteString (a : Addr) (w : World) : (method 212 29 (.pointer (some a)) "WriteString").run Tryd.prog w = .ok (59, .pointer (some a)) w := by kernel_rfl

theorem Buf.below {B b : Nat} {gO gO' : Option Nat} {bs cs : List Value} {w w' : World} (h : Buf B b gO bs w) (_ : Buf B b gO' cs w') (ht : Two b gO w w') : Below B w w' := by
  refine ⟨ht.os, ht.tape, ht.output, ht.size, fun k hk => ?_⟩
  obtain ⟨hB, v, lr, hbk, hown, hv, _⟩ := h
  have hlt := Lib.lt_of_heap hbk
  refine ht.block k (by omega) (by omega) (fun e => ?_)
  have := (hown.lt k (by rw [hv]; exact e.symm)).1
  omega

/-- What the bytes of the array read as. -/
theorem Snk.src {KP : Option (Nat × Obj)} {B bb bw bf : Nat} {gO : Option Nat} {bs cs : List Value} {w : World} (h : Snk KP B bb bw bf gO bs cs w) : ∀ j v, cs[j]? = some v → w.cell? ((⟨bf, 0, none⟩ : Addr).add j) = some v := by
  obtain ⟨ar, har, hars, hart⟩ := h.arr
  intro j v hj
  exact Lib.cells_of_row har cs.length j v (by rw [hart]; exact hj)

/-- The sink behind a flush. -/
theorem Snk.flushed {KP : Option (Nat × Obj)} {B bb bw bf : Nat} {gO gO' : Option Nat} {bs cs : List Value} {w w2 : World} (h : Snk KP B bb bw bf gO bs cs w) (hb : Buf B bb gO' (bs ++ cs) w2) (hg : gO' = gO ∨ gO' = some w.heap.size) (ht : Two bb gO w w2) :
    Snk KP B bb bw bf gO' (bs ++ cs) [] (w2.setCell ⟨bw, 2, none⟩ (.int .i64 0)) ∧ Below B w (w2.setCell ⟨bw, 2, none⟩ (.int .i64 0)) := by
  have hlw := Lib.lt_of_heap h.wr
  obtain ⟨ar, har, hars, hart⟩ := h.arr
  have hlf := Lib.lt_of_heap har
  have e1 : w2.heap[bw]? = _ := (ht.block bw hlw (Ne.symm h.n1) (fun e => h.g1 e.symm)).trans h.wr
  have e2 : w2.heap[bf]? = _ := (ht.block bf hlf (Ne.symm h.n2) (fun e => h.g2 e.symm)).trans har
  have hg1 : gO' ≠ some bw := by rcases hg with rfl | rfl; exact h.g1; intro e; have := Option.some.inj e; omega
  have hg2 : gO' ≠ some bf := by rcases hg with rfl | rfl; exact h.g2; intro e; have := Option.some.inj e; omega
  have hbuf : Buf B bb gO' (bs ++ cs) (w2.setCell ⟨bw, 2, none⟩ (.int .i64 0)) := by
    obtain ⟨hB, v, lr, hbk, hown, hv, hne⟩ := hb
    exact ⟨hB, v, lr, by rw [Below.heap_setCell _ _ _ _ h.n1]; exact hbk, hown.kept (Lib.grownBy_setCell w2 bw 2 _) (Or.inr (by rw [hv]; exact hg1)), hv, hne⟩
  have hkp : ∀ k X, KP = some (k, X) → (w2.setCell ⟨bw, 2, none⟩ (.int .i64 0)).heap[k]? = some X ∧ bb ≠ k ∧ bw ≠ k ∧ bf ≠ k ∧ gO' ≠ some k := by
    intro k X hk
    obtain ⟨a1, a2, a3, a4, a5⟩ := h.kp k X hk
    have hlt : k < w.heap.size := (Array.getElem?_eq_some_iff.1 a1).1
    refine ⟨by rw [Below.heap_setCell _ _ _ _ (Ne.symm a3), ht.block k hlt (Ne.symm a2) (fun e => a5 e.symm)]; exact a1, a2, a3, a4, ?_⟩
    rcases hg with rfl | rfl
    · exact a5
    · intro e; have := Option.some.inj e; omega
  refine ⟨⟨hbuf, Lib.heap_setCell_same (i := 2) e1 _, ⟨ar, by rw [Below.heap_setCell _ _ _ _ (Ne.symm h.n3)]; exact e2, hars, by simp⟩, by simp, h.hBw, h.hBf, h.n1, h.n2, h.n3, hg1, hg2, ?_, by simp, hkp⟩, ?_⟩
  · intro v hv
    rcases List.mem_append.1 hv with hv | hv
    · exact h.one v hv
    · exact h.onec v hv
  · exact (h.buf.below hb ht).setCell (p := ⟨bw, 2, none⟩) h.hBw _

set_option maxHeartbeats 1000000 in
theorem flush_some (KP : Option (Nat × Obj)) (B bb bw bf : Nat) (gO : Option Nat) (bs cs : List Value) (w : World) (h : Snk KP B bb bw bf gO bs cs w) (hn : 1 ≤ cs.length) (hlim : bs.length + cs.length ≤ 140737488355328) :
    Calls Tryd.prog 23 #[.pointer (some ⟨bw, 0, none⟩)] w fun e w' => e = .returned .nilIface ∧ ∃ gO', Snk KP B bb bw bf gO' (bs ++ cs) [] w' ∧ Below B w w' := by
  have H := Lib.hid h
  have h0 : w.cell? ⟨bw, 0, none⟩ = some .nilIface := by rw [Lib.cell_of_heap h.wr]; rfl
  have h1 : w.cell? ⟨bw, 1, none⟩ = some (.slice (some ⟨bf, 0, none⟩) 4096 4096) := by rw [Lib.cell_of_heap h.wr]; rfl
  have h2 : w.cell? ⟨bw, 2, none⟩ = some (.int .i64 cs.length) := by rw [Lib.cell_of_heap h.wr]; rfl
  have h3 : w.cell? ⟨bw, 3, none⟩ = some (.iface 29 (.pointer (some ⟨bb, 0, none⟩))) := by rw [Lib.cell_of_heap h.wr]; rfl
  have hl := h.len
  clear h
  obtain ⟨n, hcn⟩ : ∃ n, cs.length = n := ⟨_, rfl⟩
  rw [hcn] at hn hlim h2 hl
  have HN := Lib.hid hcn
  clear hcn
  have hn0 : ((n : Int) == 0) = false := by simp; omega
  have hi1 : (0 : Int) ≤ (n : Int) := by omega
  have hi2 : (n : Int) ≤ 4096 := by omega
  have hm := method_Write ⟨bb, 0, none⟩
  go_enter Tryd.func23, Tryd.ntmps23
  go_wp2
  go_region_held3 (fun w' => w'.cell? ⟨bw, 1, none⟩ = some (.slice (some ⟨bf, 0, none⟩) 4096 4096) ∧ w'.cell? ⟨bw, 2, none⟩ = some (.int .i64 n) ∧ w'.cell? ⟨bw, 3, none⟩ = some (.iface 29 (.pointer (some ⟨bb, 0, none⟩)))) (go_keep)
    ((go_at_call 58; refine (bufWrite B bb gO bs cs ⟨bf, 0, none⟩ n 4096 _ ?_ ?_ H.out.one HN.out hn (fun e => H.out.n2 e.symm) ?_ H.out.onec hlim).mono ?_
      · exact H.out.buf
      · exact H.out.size
      · exact H.out.src
      rintro e w2 ⟨rfl, gO', hb2, hg2, ht2⟩
      have d1 : w2.cell? ⟨bw, 1, none⟩ = some (.slice (some ⟨bf, 0, none⟩) 4096 4096) := (World.cell?_of_block (a := ⟨bw, 1, none⟩) (ht2.block bw (Lib.lt_of_heap H.out.wr) (Ne.symm H.out.n1) (fun e => H.out.g1 e.symm))).trans h1
      have d2 : w2.cell? ⟨bw, 2, none⟩ = some (.int .i64 n) := (World.cell?_of_block (a := ⟨bw, 2, none⟩) (ht2.block bw (Lib.lt_of_heap H.out.wr) (Ne.symm H.out.n1) (fun e => H.out.g1 e.symm))).trans h2
      have d3 : w2.cell? ⟨bw, 3, none⟩ = some (.iface 29 (.pointer (some ⟨bb, 0, none⟩))) := (World.cell?_of_block (a := ⟨bw, 3, none⟩) (ht2.block bw (Lib.lt_of_heap H.out.wr) (Ne.symm H.out.n1) (fun e => H.out.g1 e.symm))).trans h3
      have f2 : w2.frozen? ⟨bw, 2, none⟩ = false := (World.frozen?_of_block (a := ⟨bw, 2, none⟩) (ht2.block bw (Lib.lt_of_heap H.out.wr) (Ne.symm H.out.n1) (fun e => H.out.g1 e.symm))).trans (Lib.frozen_of_heap H.out.wr 2)))
  all_goals
    go_wp2
    go_ret
    have ht : Two bb gO w w2 := ⟨ht2.os, ht2.tape, ht2.output, ht2.size, ht2.block⟩
    exact ⟨rfl, gO', H.out.flushed hb2 hg2 ht⟩

/-- Flush, whatever is held: all goes into the buffer; nil comes back. -/
theorem flush_any (KP : Option (Nat × Obj)) (B bb bw bf : Nat) (gO : Option Nat) (bs cs : List Value) (w : World) (h : Snk KP B bb bw bf gO bs cs w) (hlim : bs.length + cs.length ≤ 140737488355328) :
    Calls Tryd.prog 23 #[.pointer (some ⟨bw, 0, none⟩)] w fun e w' => e = .returned .nilIface ∧ ∃ gO', Snk KP B bb bw bf gO' (bs ++ cs) [] w' ∧ Below B w w' := by
  by_cases hn : 1 ≤ cs.length
  · exact flush_some KP B bb bw bf gO bs cs w h hn hlim
  · obtain rfl : cs = [] := List.eq_nil_of_length_eq_zero (by omega)
    refine (flush_none bw w (by rw [Lib.cell_of_heap h.wr]; rfl) (by rw [Lib.cell_of_heap h.wr]; rfl)).mono ?_
    rintro e w' ⟨rfl, rfl⟩
    exact ⟨rfl, gO, by rw [List.append_nil]; exact h, Below.refl _ _⟩

end Go.Proofs.Qxb6614942aDoor
