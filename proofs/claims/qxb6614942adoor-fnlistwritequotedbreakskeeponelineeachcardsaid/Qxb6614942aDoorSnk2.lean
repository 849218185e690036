/-
  THE WALKS (sink 2): (*bufio.Writer).WriteByte.
-/
import Derived.Test.Qxb6614942aDoorSnk1
namespace Go.Proofs.Qxb6614942aDoor
open Go.RowKit

attribute [local go_sem] Go.wp_at_zero Go.wp_at_succ

theorem Buf.of_heap {B b : Nat} {gO : Option Nat} {bs : List Value} {w w' : World} (h : Buf B b gO bs w) (e : w'.heap = w.heap) : Buf B b gO bs w' := by
  obtain ⟨hB, v, lr, hbk, hown, hv, hne⟩ := h
  refine ⟨hB, v, lr, by rw [e]; exact hbk, ⟨hown.1, ?_⟩, hv, hne⟩
  rcases hown.2 with hq | ⟨g, cap, cur, h1, h2, h3, h4⟩
  · exact Or.inl hq
  · exact Or.inr ⟨g, cap, cur, h1, h2, by rw [e]; exact h3, h4⟩

theorem Snk.of_heap {KP : Option (Nat × Obj)} {B bb bw bf : Nat} {gO : Option Nat} {bs cs : List Value} {w w' : World} (h : Snk KP B bb bw bf gO bs cs w) (e : w'.heap = w.heap) : Snk KP B bb bw bf gO bs cs w' := by
  obtain ⟨ar, h1, h2, h3⟩ := h.arr
  exact ⟨h.buf.of_heap e, by rw [e]; exact h.wr, ⟨ar, by rw [e]; exact h1, h2, h3⟩, h.len, h.hBw, h.hBf, h.n1, h.n2, h.n3, h.g1, h.g2, h.one, h.onec, fun k X hk => by rw [e]; exact h.kp k X hk⟩

/-- One byte more in the array. -/
theorem Snk.poked {KP : Option (Nat × Obj)} {B bb bw bf : Nat} {gO : Option Nat} {bs cs : List Value} {w : World} (h : Snk KP B bb bw bf gO bs cs w) (hl : cs.length < 4096) (v : Value) (hv : v.oneCell' = true) :
    Snk KP B bb bw bf gO bs (cs ++ [v]) ((w.setCell ⟨bf, cs.length, none⟩ v).setCell ⟨bw, 2, none⟩ (.int .i64 (cs.length + 1 : Nat))) ∧ Below B w ((w.setCell ⟨bf, cs.length, none⟩ v).setCell ⟨bw, 2, none⟩ (.int .i64 (cs.length + 1 : Nat))) := by
  obtain ⟨ar, har, hars, hart⟩ := h.arr
  have e1 : (w.setCell ⟨bf, cs.length, none⟩ v).heap[bw]? = _ := (Below.heap_setCell _ _ _ _ h.n3).trans h.wr
  have e2 := Lib.heap_setCell_same (i := 2) e1 (.int .i64 (cs.length + 1 : Nat))
  have f1 := Lib.heap_setCell_same (i := cs.length) har v
  have hbuf : Buf B bb gO bs ((w.setCell ⟨bf, cs.length, none⟩ v).setCell ⟨bw, 2, none⟩ (.int .i64 (cs.length + 1 : Nat))) := by
    obtain ⟨hB, x, lr, hbk, hown, hx, hne⟩ := h.buf
    refine ⟨hB, x, lr, by rw [Below.heap_setCell _ _ _ _ h.n1, Below.heap_setCell _ _ _ _ h.n2]; exact hbk, ?_, hx, hne⟩
    exact (hown.kept (Lib.grownBy_setCell w bf cs.length v) (Or.inr (by rw [hx]; exact h.g2))).kept (Lib.grownBy_setCell _ bw 2 _) (Or.inr (by rw [hx]; exact h.g1))
  have hkp : ∀ k X, KP = some (k, X) → ((w.setCell ⟨bf, cs.length, none⟩ v).setCell ⟨bw, 2, none⟩ (.int .i64 (cs.length + 1 : Nat))).heap[k]? = some X ∧ bb ≠ k ∧ bw ≠ k ∧ bf ≠ k ∧ gO ≠ some k := by
    intro k X hk
    obtain ⟨a1, a2, a3, a4, a5⟩ := h.kp k X hk
    exact ⟨by rw [Below.heap_setCell _ _ _ _ (Ne.symm a3), Below.heap_setCell _ _ _ _ (Ne.symm a4)]; exact a1, a2, a3, a4, a5⟩
  refine ⟨⟨hbuf, by rw [List.length_append, List.length_singleton]; exact e2, ⟨ar.setIfInBounds cs.length v, by rw [Below.heap_setCell _ _ _ _ (Ne.symm h.n3)]; exact f1, by simpa using hars, ?_⟩, by simp; omega, h.hBw, h.hBf, h.n1, h.n2, h.n3, h.g1, h.g2, h.one, ?_, hkp⟩, ?_⟩
  · have hll : cs.length < ar.toList.length := by have : ar.toList.length = ar.size := Array.length_toList; omega
    rw [List.length_append, List.length_singleton, Array.toList_setIfInBounds, List.take_add_one, List.take_set_of_le (Nat.le_refl _), List.getElem?_set_self hll, hart]
    rfl
  · intro x hx
    rcases List.mem_append.1 hx with hx | hx
    · exact h.onec x hx
    · rw [List.mem_singleton.1 hx]; exact hv
  · exact ((Below.refl B w).setCell (p := ⟨bf, cs.length, none⟩) h.hBf _).setCell (p := ⟨bw, 2, none⟩) h.hBw _

/-- What the walk asks of the sink's cells. -/
theorem Snk.cells {KP : Option (Nat × Obj)} {B bb bw bf : Nat} {gO : Option Nat} {bs cs : List Value} {w : World} (h : Snk KP B bb bw bf gO bs cs w) :
    w.cell? ⟨bw, 0, none⟩ = some .nilIface ∧ w.cell? ⟨bw, 1, none⟩ = some (.slice (some ⟨bf, 0, none⟩) 4096 4096) ∧ w.cell? ⟨bw, 2, none⟩ = some (.int .i64 cs.length) ∧ w.cell? ⟨bw, 3, none⟩ = some (.iface 29 (.pointer (some ⟨bb, 0, none⟩))) ∧
      w.frozen? ⟨bw, 0, none⟩ = false ∧ w.frozen? ⟨bw, 2, none⟩ = false :=
  ⟨by rw [Lib.cell_of_heap h.wr]; rfl, by rw [Lib.cell_of_heap h.wr]; rfl, by rw [Lib.cell_of_heap h.wr]; rfl, by rw [Lib.cell_of_heap h.wr]; rfl, Lib.frozen_of_heap h.wr 0, Lib.frozen_of_heap h.wr 2⟩

theorem Snk.place {KP : Option (Nat × Obj)} {B bb bw bf : Nat} {gO : Option Nat} {bs cs : List Value} {w : World} (h : Snk KP B bb bw bf gO bs cs w) (i : Nat) (hi : i < 4096) :
    (∃ x, w.cell? ⟨bf, i, none⟩ = some x) ∧ w.frozen? ⟨bf, i, none⟩ = false := by
  obtain ⟨ar, har, hars, _⟩ := h.arr
  refine ⟨⟨ar[i], ?_⟩, Lib.frozen_of_heap har i⟩
  rw [Lib.cell_of_heap har]
  simp [hars, hi]

set_option maxHeartbeats 1000000 in
set_option maxRecDepth 100000 in
theorem writeByte_room (KP : Option (Nat × Obj)) (B bb bw bf : Nat) (gO : Option Nat) (bs cs : List Value) (c : Int) (w : World) (h : Snk KP B bb bw bf gO bs cs w) (hl : cs.length < 4096) :
    Calls Tryd.prog 22 #[.pointer (some ⟨bw, 0, none⟩), .int .u8 c] w fun e w' => e = .returned .nilIface ∧ Snk KP B bb bw bf gO bs (cs ++ [.int .u8 c]) w' ∧ Below B w w' := by
  have H := Lib.hid h
  obtain ⟨h0, h1, h2, h3, f0, f2⟩ := h.cells
  obtain ⟨⟨x, hx⟩, fx⟩ := h.place cs.length hl
  have hne := h.n3
  have hne' : bf ≠ bw := Ne.symm hne
  clear h
  obtain ⟨n, hcn⟩ : ∃ n, cs.length = n := ⟨_, rfl⟩
  rw [hcn] at hl h2 hx fx
  have HN := Lib.hid hcn
  clear hcn
  have hi1 : (0 : Int) ≤ (n : Int) := by omega
  have hi2 : (n : Int) < 4096 := by omega
  go_enter Tryd.func22, Tryd.ntmps22
  go_wp2_with (go_at_call 27; refine (available_any bw bf n _ h1 h2 (by omega)).mono ?_; rintro e w' ⟨rfl, nq, rfl⟩)
  go_region_held3 (fun w' => w'.cell? ⟨bw, 1, none⟩ = some (.slice (some ⟨bf, 0, none⟩) 4096 4096) ∧ w'.cell? ⟨bw, 2, none⟩ = some (.int .i64 n)) (go_keep) (fail)
  all_goals
    go_wp2
    go_ret
    have hp := (H.out.of_heap (w' := w.drewN (nq + 1)) rfl).poked (by rw [HN.out]; exact hl) (.int .u8 c) rfl
    rw [HN.out, show ((n + 1 : Nat) : Int) = (n : Int) + 1 from by omega] at hp
    exact ⟨rfl, hp.1, ⟨hp.2.os, hp.2.tape, hp.2.output, hp.2.size, hp.2.block⟩⟩

set_option maxHeartbeats 1000000 in
set_option maxRecDepth 100000 in
theorem writeByte_full (KP : Option (Nat × Obj)) (B bb bw bf : Nat) (gO : Option Nat) (bs cs : List Value) (c : Int) (w : World) (h : Snk KP B bb bw bf gO bs cs w) (hl : cs.length = 4096) (hlim : bs.length + cs.length ≤ 140737488355328) :
    Calls Tryd.prog 22 #[.pointer (some ⟨bw, 0, none⟩), .int .u8 c] w fun e w' => e = .returned .nilIface ∧ ∃ gO', Snk KP B bb bw bf gO' (bs ++ cs) [.int .u8 c] w' ∧ Below B w w' := by
  have H := Lib.hid h
  obtain ⟨h0, h1, h2, h3, f0, f2⟩ := h.cells
  have hne := h.n3
  have hne' : bf ≠ bw := Ne.symm hne
  clear h
  rw [hl] at h2
  have HL := Lib.hid hl
  clear hl
  go_enter Tryd.func22, Tryd.ntmps22
  go_wp2_with (first | (go_at_call 27; refine (available_any bw bf 4096 _ h1 h2 (Nat.le_refl _)).mono ?_; rintro e w' ⟨rfl, nq, rfl⟩) | (go_at_call 23; refine (flush_any KP B bb bw bf gO bs cs _ (by exact H.out.of_heap rfl) hlim).mono ?_; rintro e w2 ⟨rfl, gO', hs2, hb2⟩; have H2 := Lib.hid hs2; obtain ⟨k0, k1, k2, k3, q0, q2⟩ := hs2.cells; obtain ⟨⟨x, hx⟩, fx⟩ := hs2.place 0 (by omega); clear hs2; rw [List.length_nil] at k2))
  go_region_held3 (fun w' => w'.cell? ⟨bw, 1, none⟩ = some (.slice (some ⟨bf, 0, none⟩) 4096 4096) ∧ w'.cell? ⟨bw, 2, none⟩ = some (.int .i64 ((0 : Nat) : Int))) (go_keep) (fail)
  all_goals
    go_wp2
    go_ret
    have hp := H2.out.poked (by decide) (.int .u8 c) rfl
    have hb0 : Below B w w2 := ⟨hb2.os, hb2.tape, hb2.output, hb2.size, hb2.block⟩
    have hb : Below B w (((w2.setCell ⟨bf, 0, none⟩ (.int .u8 c)).setCell ⟨bw, 2, none⟩ (.int .i64 1)).drew) := (hb0.trans hp.2).drew
    exact ⟨rfl, gO', Snk.of_heap (w := (w2.setCell ⟨bf, 0, none⟩ (.int .u8 c)).setCell ⟨bw, 2, none⟩ (.int .i64 1)) hp.1 rfl, hb⟩

/-- The sink holds 'out', however it is parted between the buffer and the writer's array. -/
def Holds (KP : Option (Nat × Obj)) (B bb bw bf : Nat) (out : List Value) (w : World) : Prop := ∃ gO bs cs, Snk KP B bb bw bf gO bs cs w ∧ bs ++ cs = out

theorem writeByte_any (KP : Option (Nat × Obj)) (B bb bw bf : Nat) (out : List Value) (c : Int) (w : World) (h : Holds KP B bb bw bf out w) (hlim : out.length ≤ 140737488355328) :
    Calls Tryd.prog 22 #[.pointer (some ⟨bw, 0, none⟩), .int .u8 c] w fun e w' => e = .returned .nilIface ∧ Holds KP B bb bw bf (out ++ [.int .u8 c]) w' ∧ Below B w w' := by
  obtain ⟨gO, bs, cs, hs, rfl⟩ := h
  have hl := hs.len
  rw [List.length_append] at hlim
  by_cases hc : cs.length < 4096
  · refine (writeByte_room KP B bb bw bf gO bs cs c w hs hc).mono ?_
    rintro e w' ⟨h1, h2, h3⟩
    exact ⟨h1, ⟨gO, bs, _, h2, by rw [List.append_assoc]⟩, h3⟩
  · refine (writeByte_full KP B bb bw bf gO bs cs c w hs (by omega) hlim).mono ?_
    rintro e w' ⟨h1, gO', h2, h3⟩
    exact ⟨h1, ⟨gO', _, _, h2, rfl⟩, h3⟩

theorem flush_holds (KP : Option (Nat × Obj)) (B bb bw bf : Nat) (out : List Value) (w : World) (h : Holds KP B bb bw bf out w) (hlim : out.length ≤ 140737488355328) :
    Calls Tryd.prog 23 #[.pointer (some ⟨bw, 0, none⟩)] w fun e w' => e = .returned .nilIface ∧ ∃ gO', Snk KP B bb bw bf gO' out [] w' ∧ Below B w w' := by
  obtain ⟨gO, bs, cs, hs, rfl⟩ := h
  rw [List.length_append] at hlim
  exact flush_any KP B bb bw bf gO bs cs w hs hlim

end Go.Proofs.Qxb6614942aDoor
