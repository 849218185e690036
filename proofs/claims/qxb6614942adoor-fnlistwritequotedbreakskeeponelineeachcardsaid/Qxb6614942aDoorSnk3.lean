/-
  THE WALKS (sink 3): (*bufio.Writer).Write of a slice that came in.
-/
import Derived.Test.Qxb6614942aDoorSnk2
import Derived.Deep.LoopGhost
namespace Go.Proofs.Qxb6614942aDoor
open Go.RowKit

attribute [local go_sem] Go.wp_at_zero Go.wp_at_succ

/-- Bytes copied into the array behind those that it holds. -/
theorem Snk.filled {KP : Option (Nat × Obj)} {B bb bw bf : Nat} {gO : Option Nat} {bs cs news : List Value} {w : World} {ar : Array Value} (h : Snk KP B bb bw bf gO bs cs w) (har : w.heap[bf]? = some (.cells ar 5 (0, 0))) (hl : cs.length + news.length ≤ 4096) (hv : ∀ v ∈ news, v.oneCell' = true) :
    Snk KP B bb bw bf gO bs (cs ++ news) ((w.setRow bf (ar.toList.take cs.length ++ news ++ ar.toList.drop (cs.length + news.length)).toArray).setCell ⟨bw, 2, none⟩ (.int .i64 (cs.length + news.length : Nat))) ∧
      Below B w ((w.setRow bf (ar.toList.take cs.length ++ news ++ ar.toList.drop (cs.length + news.length)).toArray).setCell ⟨bw, 2, none⟩ (.int .i64 (cs.length + news.length : Nat))) := by
  obtain ⟨ar', har', hars, hart⟩ := h.arr
  obtain rfl : ar' = ar := by rw [har] at har'; simpa using har'.symm
  have e1 : (w.setRow bf (ar'.toList.take cs.length ++ news ++ ar'.toList.drop (cs.length + news.length)).toArray).heap[bw]? = _ := (setRow_other _ _ _ _ h.n3).trans h.wr
  have e2 := Lib.heap_setCell_same (i := 2) e1 (.int .i64 (cs.length + news.length : Nat))
  have f1 := setRow_heap w bf ar' (ar'.toList.take cs.length ++ news ++ ar'.toList.drop (cs.length + news.length)).toArray 5 (0, 0) har
  have hg : w.grownBy (w.setRow bf (ar'.toList.take cs.length ++ news ++ ar'.toList.drop (cs.length + news.length)).toArray) (some bf) := ⟨rfl, rfl, rfl, by simp, fun k _ hk => setRow_other _ _ _ _ (fun e => hk (by rw [e]))⟩
  have hbuf : Buf B bb gO bs ((w.setRow bf (ar'.toList.take cs.length ++ news ++ ar'.toList.drop (cs.length + news.length)).toArray).setCell ⟨bw, 2, none⟩ (.int .i64 (cs.length + news.length : Nat))) := by
    obtain ⟨hB, x, lr, hbk, hown, hx, hne⟩ := h.buf
    refine ⟨hB, x, lr, by rw [Below.heap_setCell _ _ _ _ h.n1, setRow_other _ _ _ _ h.n2]; exact hbk, ?_, hx, hne⟩
    exact (hown.kept hg (Or.inr (by rw [hx]; exact h.g2))).kept (Lib.grownBy_setCell _ bw 2 _) (Or.inr (by rw [hx]; exact h.g1))
  have hll : (ar'.toList.take cs.length).length = cs.length := by rw [hart]
  have hkp : ∀ k X, KP = some (k, X) → ((w.setRow bf (ar'.toList.take cs.length ++ news ++ ar'.toList.drop (cs.length + news.length)).toArray).setCell ⟨bw, 2, none⟩ (.int .i64 (cs.length + news.length : Nat))).heap[k]? = some X ∧ bb ≠ k ∧ bw ≠ k ∧ bf ≠ k ∧ gO ≠ some k := by
    intro k X hk
    obtain ⟨a1, a2, a3, a4, a5⟩ := h.kp k X hk
    exact ⟨by rw [Below.heap_setCell _ _ _ _ (Ne.symm a3), setRow_other _ _ _ _ (Ne.symm a4)]; exact a1, a2, a3, a4, a5⟩
  refine ⟨⟨hbuf, by rw [List.length_append]; exact e2, ⟨_, by rw [Below.heap_setCell _ _ _ _ (Ne.symm h.n3)]; exact f1, ?_, ?_⟩, by rw [List.length_append]; exact hl, h.hBw, h.hBf, h.n1, h.n2, h.n3, h.g1, h.g2, h.one, ?_, hkp⟩, ?_⟩
  · simp only [List.size_toArray, List.length_append, hll, List.length_drop, Array.length_toList]; omega
  · rw [List.length_append, List.toList_toArray, List.take_append_of_le_length (by rw [List.length_append, hll]; exact Nat.le_refl _), List.take_of_length_le (by rw [List.length_append, hll]; exact Nat.le_refl _), hart]
  · intro x hx
    rcases List.mem_append.1 hx with hx | hx
    · exact h.onec x hx
    · exact hv x hx
  · have hb : Below B w (w.setRow bf (ar'.toList.take cs.length ++ news ++ ar'.toList.drop (cs.length + news.length)).toArray) := ⟨rfl, rfl, rfl, by simp, fun k hk => setRow_other _ _ _ _ (by have := h.hBf; omega)⟩
    exact hb.setCell (p := ⟨bw, 2, none⟩) h.hBw _

/-- 'copy(b.buf[b.n:], p)', as the walk asks it: behind whatever draws; what it leaves under a name. -/
theorem copy_facts {KP : Option (Nat × Obj)} {B bb bw bf n t m C : Nat} {gO : Option Nat} {bs cs news : List Value} {w : World} (h : Snk KP B bb bw bf gO bs cs w) (hn : cs.length = n) (hn4 : n < 4096) (a : Addr) (ht : news.length = t) (htm : t = min m (4096 - n))
    (hsrc : ∀ j v, news[j]? = some v → w.cell? (a.add j) = some v) (hone : ∀ v ∈ news, v.oneCell' = true) :
    ∃ X : Array Value, (∀ q, (Builtin.copy_ #[22, 22] 3 #[.slice (some ⟨bf, n, none⟩) (4096 - n) (4096 - n), .slice (some a) m C]).run Tryd.prog (w.drewN q) = .ok (.int .i64 t) ((w.drewN q).setRow bf X)) ∧
      (∀ q, ((w.drewN q).setRow bf X).cell? ⟨bw, 1, none⟩ = some (.slice (some ⟨bf, 0, none⟩) 4096 4096)) ∧ (∀ q, ((w.drewN q).setRow bf X).cell? ⟨bw, 2, none⟩ = some (.int .i64 n)) ∧ (∀ q, ((w.drewN q).setRow bf X).frozen? ⟨bw, 2, none⟩ = false) ∧
      ∀ q, Snk KP B bb bw bf gO bs (cs ++ news) (((w.drewN q).setRow bf X).setCell ⟨bw, 2, none⟩ (.int .i64 (n + t : Nat))) ∧ Below B w (((w.drewN q).setRow bf X).setCell ⟨bw, 2, none⟩ (.int .i64 (n + t : Nat))) := by
  obtain ⟨ar, har, hars, hart⟩ := h.arr
  refine ⟨(ar.toList.take n ++ news ++ ar.toList.drop (n + t)).toArray, fun q => ?_, fun q => ?_, fun q => ?_, fun q => ?_, fun q => ?_⟩
  · have hc := run_copy_row (P := Tryd.prog) (w.drewN q) 22 22 3 5 bf n (4096 - n) (4096 - n) a m C ar 5 news Tryd.underlying22 info5 har (by rw [ht]; exact htm) hsrc (by rw [ht, hars]; omega) hone
    rw [ht] at hc
    exact hc
  · have e : ((w.drewN q).setRow bf (ar.toList.take n ++ news ++ ar.toList.drop (n + t)).toArray).heap[bw]? = _ := (setRow_other _ _ _ _ h.n3).trans h.wr
    rw [Lib.cell_of_heap e]; rfl
  · have e : ((w.drewN q).setRow bf (ar.toList.take n ++ news ++ ar.toList.drop (n + t)).toArray).heap[bw]? = _ := (setRow_other _ _ _ _ h.n3).trans h.wr
    rw [Lib.cell_of_heap e, hn]; rfl
  · have e : ((w.drewN q).setRow bf (ar.toList.take n ++ news ++ ar.toList.drop (n + t)).toArray).heap[bw]? = _ := (setRow_other _ _ _ _ h.n3).trans h.wr
    exact Lib.frozen_of_heap e 2
  · have hf := (h.of_heap (w' := w.drewN q) rfl).filled (news := news) har (by rw [hn, ht]; omega) hone
    rw [hn, ht] at hf
    exact ⟨hf.1, ⟨hf.2.os, hf.2.tape, hf.2.output, hf.2.size, hf.2.block⟩⟩

/-- A source that lies below the call's own blocks, read later. -/
theorem src_later {B : Nat} {a : Addr} {l : List Value} {w wr : World} (hB : a.block < B) (hb : Below B w wr) (h : ∀ j v, l[j]? = some v → w.cell? (a.add j) = some v) : ∀ j v, l[j]? = some v → wr.cell? (a.add j) = some v :=
  fun j v hj => (hb.cell (by rw [Lib.block_add]; exact hB)).trans (h j v hj)

theorem Snk.renum {KP : Option (Nat × Obj)} {B bb bw bf n : Nat} {gO : Option Nat} {bs cs : List Value} {w : World} (h : Snk KP B bb bw bf gO bs cs w) (hn : cs.length = n) :
    Snk KP B bb bw bf gO bs cs (w.setCell ⟨bw, 2, none⟩ (.int .i64 n)) ∧ Below B w (w.setCell ⟨bw, 2, none⟩ (.int .i64 n)) := by
  subst hn
  obtain ⟨ar, har, hars, hart⟩ := h.arr
  have hbuf : Buf B bb gO bs (w.setCell ⟨bw, 2, none⟩ (.int .i64 cs.length)) := by
    obtain ⟨hB, x, lr, hbk, hown, hx, hne⟩ := h.buf
    exact ⟨hB, x, lr, by rw [Below.heap_setCell _ _ _ _ h.n1]; exact hbk, hown.kept (Lib.grownBy_setCell _ bw 2 _) (Or.inr (by rw [hx]; exact h.g1)), hx, hne⟩
  have hkp : ∀ k X, KP = some (k, X) → (w.setCell ⟨bw, 2, none⟩ (.int .i64 cs.length)).heap[k]? = some X ∧ bb ≠ k ∧ bw ≠ k ∧ bf ≠ k ∧ gO ≠ some k := by
    intro k X hk
    obtain ⟨a1, a2, a3, a4, a5⟩ := h.kp k X hk
    exact ⟨by rw [Below.heap_setCell _ _ _ _ (Ne.symm a3)]; exact a1, a2, a3, a4, a5⟩
  exact ⟨⟨hbuf, Lib.heap_setCell_same (i := 2) h.wr _, ⟨ar, by rw [Below.heap_setCell _ _ _ _ (Ne.symm h.n3)]; exact har, hars, hart⟩, h.len, h.hBw, h.hBf, h.n1, h.n2, h.n3, h.g1, h.g2, h.one, h.onec, hkp⟩,
    (Below.refl B w).setCell (p := ⟨bw, 2, none⟩) h.hBw _⟩

/-- The sink behind a write that went past the empty array. -/
theorem Snk.direct {KP : Option (Nat × Obj)} {B bb bw bf : Nat} {gO gO' : Option Nat} {bs news : List Value} {w w2 : World} (h : Snk KP B bb bw bf gO bs [] w) (hb : Buf B bb gO' (bs ++ news) w2) (hg : gO' = gO ∨ gO' = some w.heap.size) (ht : Two bb gO w w2) (hone : ∀ v ∈ news, v.oneCell' = true) :
    Snk KP B bb bw bf gO' (bs ++ news) [] (w2.setCell ⟨bw, 0, none⟩ .nilIface) ∧ Below B w (w2.setCell ⟨bw, 0, none⟩ .nilIface) := by
  have hlw := Lib.lt_of_heap h.wr
  obtain ⟨ar, har, hars, hart⟩ := h.arr
  have hlf := Lib.lt_of_heap har
  have e1 : w2.heap[bw]? = _ := (ht.block bw hlw (Ne.symm h.n1) (fun e => h.g1 e.symm)).trans h.wr
  have e2 : w2.heap[bf]? = _ := (ht.block bf hlf (Ne.symm h.n2) (fun e => h.g2 e.symm)).trans har
  have hg1 : gO' ≠ some bw := by rcases hg with rfl | rfl; exact h.g1; intro e; have := Option.some.inj e; omega
  have hg2 : gO' ≠ some bf := by rcases hg with rfl | rfl; exact h.g2; intro e; have := Option.some.inj e; omega
  have hbuf : Buf B bb gO' (bs ++ news) (w2.setCell ⟨bw, 0, none⟩ .nilIface) := by
    obtain ⟨hB, v, lr, hbk, hown, hv, hne⟩ := hb
    exact ⟨hB, v, lr, by rw [Below.heap_setCell _ _ _ _ h.n1]; exact hbk, hown.kept (Lib.grownBy_setCell w2 bw 0 _) (Or.inr (by rw [hv]; exact hg1)), hv, hne⟩
  have hkp : ∀ k X, KP = some (k, X) → (w2.setCell ⟨bw, 0, none⟩ .nilIface).heap[k]? = some X ∧ bb ≠ k ∧ bw ≠ k ∧ bf ≠ k ∧ gO' ≠ some k := by
    intro k X hk
    obtain ⟨a1, a2, a3, a4, a5⟩ := h.kp k X hk
    have hlt : k < w.heap.size := (Array.getElem?_eq_some_iff.1 a1).1
    refine ⟨by rw [Below.heap_setCell _ _ _ _ (Ne.symm a3), ht.block k hlt (Ne.symm a2) (fun e => a5 e.symm)]; exact a1, a2, a3, a4, ?_⟩
    rcases hg with rfl | rfl
    · exact a5
    · intro e; have := Option.some.inj e; omega
  refine ⟨⟨hbuf, Lib.heap_setCell_same (i := 0) e1 _, ⟨ar, by rw [Below.heap_setCell _ _ _ _ (Ne.symm h.n3)]; exact e2, hars, by simp⟩, by simp, h.hBw, h.hBf, h.n1, h.n2, h.n3, hg1, hg2, ?_, by simp, hkp⟩, ?_⟩
  · intro v hv
    rcases List.mem_append.1 hv with hv | hv
    · exact h.one v hv
    · exact hone v hv
  · exact (h.buf.below hb ht).setCell (p := ⟨bw, 0, none⟩) h.hBw _

theorem two_drew {b q : Nat} {gO : Option Nat} {w w' : World} (h : Two b gO (w.drewN q) w') : Two b gO w w' := ⟨h.os, h.tape, h.output, h.size, h.block⟩
theorem below_drewN' {B q : Nat} {w w' : World} (h : Below B (w.drewN q) w') : Below B w w' := ⟨h.os, h.tape, h.output, h.size, h.block⟩

theorem hide {p : Prop} (h : p) : Hid p := h
theorem int_eq {k : IntKind} {a b : Int} (h : a = b) : Value.int k a = .int k b := by rw [h]
theorem src_drop {a : Addr} {l : List Value} {w : World} (k t : Nat) (h : ∀ j v, (l.drop k)[j]? = some v → w.cell? (a.add j) = some v) : ∀ j v, (l.drop (k + t))[j]? = some v → w.cell? ((a.add t).add j) = some v := by
  intro j v hj
  rw [Addr.add_add]
  apply h
  rw [List.getElem?_drop] at hj ⊢
  rw [← hj]
  congr 1
  omega
theorem ret_two {a b : Int} (h : a = b) : Ending.returned (.tuple #[.int .i64 a, .nilIface]) = .returned (.tuple #[.int .i64 b, .nilIface]) := by rw [h]

set_option maxHeartbeats 1000000 in
set_option maxRecDepth 100000 in
theorem write_some (KP : Option (Nat × Obj)) (B bb bw bf : Nat) (out ps : List Value) (a : Addr) (N C : Nat) (w : World) (h : Holds KP B bb bw bf out w) (hN : ps.length = N) (haB : a.block < B) (hNC : N ≤ C) (hC : C ≤ 9223372036854775807)
    (hsrc : ∀ j v, ps[j]? = some v → w.cell? (a.add j) = some v) (hone : ∀ v ∈ ps, v.oneCell' = true) (hlim : out.length + N ≤ 140737488355328) :
    Calls Tryd.prog 21 #[.pointer (some ⟨bw, 0, none⟩), .slice (some a) N C] w fun e w' => e = .returned (.tuple #[.int .i64 N, .nilIface]) ∧ Holds KP B bb bw bf (out ++ ps) w' ∧ Below B w w' := by
  obtain ⟨gO, bs, cs, hs, hout⟩ := h
  have HS := Lib.hid hs
  have HO := Lib.hid hout
  have HN := Lib.hid hN
  clear hs hout hN
  go_enter Tryd.func21, Tryd.ntmps21
  go_wp2
  go_loopg [1, 4] (2 * N + 1) (fun gk p nn wr => ∃ (k m C' : Nat) (a' : Addr) (gO' : Option Nat) (bs' cs' : List Value), p = .slice (some a') m C' ∧ nn = .int .i64 k ∧ k + m ≤ 140737488355328 ∧ m ≤ C' ∧ C' ≤ 9223372036854775807 ∧
    Hid (k + m = N ∧ a'.block < B ∧ (∀ j v, (ps.drop k)[j]? = some v → w.cell? (a'.add j) = some v) ∧ Snk KP B bb bw bf gO' bs' cs' wr ∧ bs' ++ cs' ++ ps.drop k = out ++ ps ∧ Below B w wr ∧ 2 * m + (if cs'.length = 0 then 0 else 1) ≤ gk))
  case atStart => exact ⟨0, N, C, a, gO, bs, cs, rfl, rfl, by omega, by omega, hC, ⟨by omega, haB, by simpa using hsrc, HS.out, by rw [HO.out, List.drop_zero], Below.refl _ _, by split <;> omega⟩⟩
  case round =>
    obtain ⟨k, m, C', a', gO', bs', cs', rfl, rfl, hk, hkC, hC', HR⟩ := hrel
    obtain ⟨hkm, haB', hsrc', hsn, hcat, hbel, hgk⟩ := HR.out
    obtain ⟨h0, h1, h2, h3, f0, f2⟩ := hsn.cells
    have hl := hsn.len
    have hne := hsn.n3
    have hne' : bf ≠ bw := Ne.symm hne
    obtain ⟨n, hcn⟩ : ∃ n, cs'.length = n := ⟨_, rfl⟩
    have hdl : (ps.drop k).length = m := by rw [List.length_drop, HN.out]; omega
    have hcp := fun (hn4 : n < 4096) (t : Nat) (ht : t = min m (4096 - n)) => copy_facts (C := C') (t := t) (m := m) (news := (ps.drop k).take t) hsn hcn hn4 a' (by rw [List.length_take, hdl]; omega) ht (fun j v hj => src_later haB' hbel hsrc' j v (by rw [List.getElem?_take] at hj; split at hj; exact hj; cases hj)) (fun v hv => hone v (List.mem_of_mem_drop (List.mem_of_mem_take hv)))
    have HSn := Lib.hid hsn
    have HC := Lib.hid hcn
    have HD := Lib.hid hdl
    have HP := Lib.hid hcp
    rw [hcn] at h2 hl
    clear hsn hcn hdl hcp hkm haB' hsrc' hcat hbel hgk
    by_cases hroom : (m : Int) ≤ 4096 - (n : Int)
    · have hd : decide (4096 - (n : Int) < (m : Int)) = false := by simp; omega
      by_cases hn4 : n < 4096
      · obtain ⟨X, hX, hc1, hc2, hfz, hend⟩ := HP.out hn4 m (by omega)
        have HE := Lib.hid hend
        clear hend
        have hi1 : (0 : Int) ≤ (n : Int) := by omega
        have hi2 : (n : Int) ≤ 4096 := by omega
        have hi3 : ¬ (4096 : Nat) = n := by omega
        go_wp2_with (go_at_call 27; refine (available_any bw bf n _ h1 h2 hl).mono ?_; rintro e w' ⟨rfl, nq, rfl⟩)
        go_region_held3 (fun w' => w'.cell? ⟨bw, 1, none⟩ = some (.slice (some ⟨bf, 0, none⟩) 4096 4096) ∧ w'.cell? ⟨bw, 2, none⟩ = some (.int .i64 n)) (go_keep) (fail)
        all_goals
          go_wp2
          go_ret2
          obtain ⟨hkm, haB', hsrc', hsn, hcat, hbel, hgk⟩ := HR.out
          obtain ⟨e1, e2⟩ := HE.out (nq + 1)
          rw [show ((n + m : Nat) : Int) = (n : Int) + (m : Int) from by omega] at e1 e2
          refine ⟨ret_two (by omega), ⟨gO', bs', _, e1, ?_⟩, hbel.trans e2⟩
          rw [List.take_of_length_le (by rw [HD.out]; exact Nat.le_refl _), ← List.append_assoc]
          exact hcat
      · obtain rfl : n = 4096 := by omega
        obtain rfl : m = 0 := by omega
        have hcz : ∀ q, (Builtin.copy_ #[22, 22] 3 #[.slice (some ⟨bf, 0, none⟩) 0 0, .slice (some a') 0 C']).run Tryd.prog (wr.drewN q) = .ok (.int .i64 0) (wr.drewN q) := fun q => run_copy_none (wr.drewN q) 22 22 3 5 _ _ 0 0 0 C' Tryd.underlying22 info5 (by simp)
        go_wp2_with (go_at_call 27; refine (available_any bw bf 4096 _ h1 h2 hl).mono ?_; rintro e w' ⟨rfl, nq, rfl⟩)
        go_region_held3 (fun w' => w'.cell? ⟨bw, 1, none⟩ = some (.slice (some ⟨bf, 0, none⟩) 4096 4096) ∧ w'.cell? ⟨bw, 2, none⟩ = some (.int .i64 ((4096 : Nat) : Int))) (go_keep) (fail)
        all_goals
          go_wp2
          go_ret2
          obtain ⟨hkm, haB', hsrc', hsn, hcat, hbel, hgk⟩ := HR.out
          obtain ⟨e1, e2⟩ := (hsn.of_heap (w' := wr.drewN (nq + 1)) rfl).renum HC.out
          have hdn : ps.drop k = [] := List.eq_nil_of_length_eq_zero HD.out
          refine ⟨ret_two (by omega), ⟨gO', bs', cs', e1, ?_⟩, hbel.trans (below_drewN' e2)⟩
          rw [hdn, List.append_nil] at hcat
          exact hcat
    · have hd : decide (4096 - (n : Int) < (m : Int)) = true := by simp; omega
      by_cases hn0 : n = 0
      · subst hn0
        have hm := method_Write ⟨bb, 0, none⟩
        obtain ⟨hkm, haB', hsrc', hsn, hcat, hbel, hgk⟩ := HR.out
        obtain rfl : cs' = [] := List.eq_nil_of_length_eq_zero HC.out
        have hsrcR := src_later haB' hbel hsrc'
        have hbb := hsn.buf.1
        have hab : a'.block ≠ bb := by omega
        have hlb : bs'.length + m ≤ 140737488355328 := by
          have := congrArg List.length hcat
          simp only [List.length_append, List.length_nil, HD.out, HN.out] at this
          omega
        have HSrc := Lib.hid hsrcR
        clear hkm haB' hsrc' hsn hcat hbel hgk hsrcR hbb
        by_cases hCm : C' = m
        all_goals
          go_wp2_with (first | (go_at_call 27; refine (available_any bw bf 0 _ h1 h2 hl).mono ?_; rintro e w' ⟨rfl, nq, rfl⟩) | (go_at_call 28; refine (buffered_any bw 0 _ (by exact h2)).mono ?_; rintro e w' ⟨rfl, rfl⟩) | (go_at_call 58; refine (bufWrite B bb gO' bs' (ps.drop k) a' m _ _ (by exact HSn.out.buf.of_heap rfl) (by exact HSn.out.size) HSn.out.one HD.out (by omega) hab (by exact HSrc.out) (fun v hv => hone v (List.mem_of_mem_drop hv)) hlb).mono ?_; rintro e w2 ⟨rfl, gO2, hb2, hg2, ht2⟩; have d0 : w2.cell? ⟨bw, 0, none⟩ = some .nilIface := (World.cell?_of_block (a := ⟨bw, 0, none⟩) (ht2.block bw (Lib.lt_of_heap HSn.out.wr) (Ne.symm HSn.out.n1) (fun e => HSn.out.g1 e.symm))).trans h0; have e0 : w2.frozen? ⟨bw, 0, none⟩ = false := (World.frozen?_of_block (a := ⟨bw, 0, none⟩) (ht2.block bw (Lib.lt_of_heap HSn.out.wr) (Ne.symm HSn.out.n1) (fun e => HSn.out.g1 e.symm))).trans f0))
          go_roundg 0
          case measure =>
            have hgk := HR.out.2.2.2.2.2.2
            omega
          case rel =>
            obtain ⟨hkm, haB', hsrc', hsn, hcat, hbel, hgk⟩ := HR.out
            obtain ⟨e1, e2⟩ := hsn.direct hb2 hg2 (two_drew ht2) (fun v hv => hone v (List.mem_of_mem_drop hv))
            have hdn : ps.drop (k + m) = [] := List.drop_eq_nil_of_le (by rw [HN.out]; omega)
            refine ⟨k + m, 0, _, _, gO2, _, [], rfl, by go_num, by omega, Nat.zero_le _, by omega, hide ⟨by omega, ?_, by rw [hdn]; simp, e1, ?_, hbel.trans e2, by simp⟩⟩
            · first | exact haB' | (rw [Lib.block_add]; exact haB')
            · rw [hdn, List.append_nil, List.append_nil]
              rw [List.append_nil] at hcat
              exact hcat
      · have hn0' : ((n : Int) == 0) = false := by simp; omega
        have hlb : bs'.length + 4096 ≤ 140737488355328 + 4096 ∧ bs'.length + n + m ≤ 140737488355328 := by
          have hcat := HR.out.2.2.2.2.1
          have := congrArg List.length hcat
          simp only [List.length_append, HC.out, HD.out, HN.out] at this
          omega
        by_cases hn4 : n < 4096
        · obtain ⟨X, hX, hc1, hc2, hfz, hend⟩ := HP.out hn4 (4096 - n) (by omega)
          have HE := Lib.hid hend
          clear hend
          have hi1 : (0 : Int) ≤ (n : Int) := by omega
          have hi2 : (n : Int) ≤ 4096 := by omega
          have hi3 : ¬ (4096 : Nat) = n := by omega
          have hcast : ((4096 - n : Nat) : Int) = 4096 - (n : Int) := by omega
          rw [hcast] at hX
          have hCt : ¬ C' = 4096 - n := by omega
          go_wp2_with (first | (go_at_call 27; refine (available_any bw bf n _ h1 h2 hl).mono ?_; rintro e w' ⟨rfl, nq, rfl⟩) | (go_at_call 28; refine (buffered_any bw n _ (by exact h2)).mono ?_; rintro e w' ⟨rfl, rfl⟩))
          go_region_held3 (fun w' => w'.cell? ⟨bw, 1, none⟩ = some (.slice (some ⟨bf, 0, none⟩) 4096 4096) ∧ w'.cell? ⟨bw, 2, none⟩ = some (.int .i64 n)) (go_keep) (fail)
          have htn : (4096 - (n : Int)).toNat = 4096 - n := by omega
          have e1 := (HE.out (nq + 1)).1
          rw [show ((n + (4096 - n) : Nat) : Int) = (n : Int) + (4096 - (n : Int)) from by omega] at e1
          have E1 := Lib.hid e1
          clear e1
          have hfl : bs'.length + (cs' ++ (ps.drop k).take (4096 - n)).length ≤ 140737488355328 := by
            rw [List.length_append, HC.out, List.length_take, HD.out]; omega
          go_wp2_with (go_at_call 23; refine (flush_any KP B bb bw bf gO' bs' (cs' ++ (ps.drop k).take (4096 - n)) _ (by exact E1.out) hfl).mono ?_; rintro e w2 ⟨rfl, gO2, hs2, hb2⟩)
          all_goals
            go_roundg (2 * (m - (4096 - n)))
            case measure =>
              have hgk := HR.out.2.2.2.2.2.2
              rw [HC.out, if_neg hn0] at hgk
              omega
            case rel =>
              obtain ⟨hkm, haB', hsrc', hsn, hcat, hbel, hgk⟩ := HR.out
              have e2 := (HE.out (nq + 1)).2
              rw [show ((n + (4096 - n) : Nat) : Int) = (n : Int) + (4096 - (n : Int)) from by omega] at e2
              refine ⟨k + (4096 - n), m - (4096 - n), _, _, gO2, _, [], rfl, int_eq (by omega), by omega, by omega, by omega, hide ⟨by omega, by rw [Lib.block_add]; exact haB', src_drop _ _ hsrc', hs2, ?_, hbel.trans (e2.trans hb2), by simp⟩⟩
              rw [List.append_nil, ← hcat, ← List.drop_drop, List.append_assoc, List.append_assoc, List.take_append_drop, List.append_assoc]
        · obtain rfl : n = 4096 := by omega
          have hcz : ∀ q, (Builtin.copy_ #[22, 22] 3 #[.slice (some ⟨bf, 0, none⟩) 0 0, .slice (some a') m C']).run Tryd.prog (wr.drewN q) = .ok (.int .i64 0) (wr.drewN q) := fun q => run_copy_none (wr.drewN q) 22 22 3 5 _ _ 0 0 m C' Tryd.underlying22 info5 (by simp)
          have E1 := Lib.hid (fun q => (HSn.out.of_heap (w' := wr.drewN q) rfl).renum HC.out)
          have hfl : bs'.length + cs'.length ≤ 140737488355328 := by rw [HC.out]; omega
          have hCt : ¬ C' = 0 := by omega
          have hm0 : (0 : Int) < (m : Int) := by omega
          clear hd hn0'
          have hq1 : (((4096 : Nat) : Int) == 0) = false := by decide
          have hmN : 0 < m := by omega
          have hmD : decide (0 < m) = true := by simp; omega
          go_wp2_with (first | (go_at_call 27; refine (available_any bw bf 4096 _ h1 h2 hl).mono ?_; rintro e w' ⟨rfl, nq, rfl⟩) | (go_at_call 28; refine (buffered_any bw 4096 _ (by exact h2)).mono ?_; rintro e w' ⟨rfl, rfl⟩))
          go_region_held3 (fun w' => w'.cell? ⟨bw, 1, none⟩ = some (.slice (some ⟨bf, 0, none⟩) 4096 4096) ∧ w'.cell? ⟨bw, 2, none⟩ = some (.int .i64 ((4096 : Nat) : Int))) (go_keep) (fail)
          go_wp2_with (go_at_call 23; refine (flush_any KP B bb bw bf gO' bs' cs' _ (by exact (E1.out (nq + 1)).1) hfl).mono ?_; rintro e w2 ⟨rfl, gO2, hs2, hb2⟩)
          all_goals
            go_roundg (2 * m)
            case measure =>
              have hgk := HR.out.2.2.2.2.2.2
              rw [HC.out] at hgk
              simp at hgk
              omega
            case rel =>
              obtain ⟨hkm, haB', hsrc', hsn, hcat, hbel, hgk⟩ := HR.out
              have e2 := (E1.out (nq + 1)).2
              exact ⟨k, m, C', a', gO2, _, [], rfl, rfl, hk, hkC, hC', hide ⟨hkm, haB', hsrc', hs2, by rw [List.append_nil]; exact hcat, hbel.trans ((below_drewN' e2).trans hb2), by simp⟩⟩

end Go.Proofs.Qxb6614942aDoor
