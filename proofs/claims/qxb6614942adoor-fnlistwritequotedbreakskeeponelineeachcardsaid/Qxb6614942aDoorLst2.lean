/-
  THE WALKS (list 2): the sink's making; ZZsinkBytes.
-/
import Derived.Test.Qxb6614942aDoorLst1
namespace Go.Proofs.Qxb6614942aDoor
open Go.RowKit

attribute [local go_sem] Go.wp_at_zero Go.wp_at_succ

theorem ownsRow_later {B : Nat} {v : Value} {n : Nat} {bs : List Value} {w w' : World} (h : w.ownsRow B 5 1 v n bs) (hb : Below w.heap.size w w') : w'.ownsRow B 5 1 v n bs := by
  refine ⟨h.1, ?_⟩
  rcases h.2 with hq | ⟨g, cap, cur, h1, h2, h3, h4⟩
  · exact Or.inl hq
  · exact Or.inr ⟨g, cap, cur, h1, h2, by rw [hb.block g (Lib.lt_of_heap h3)]; exact h3, h4⟩

theorem Snk.later {KP : Option (Nat × Obj)} {B bb bw bf : Nat} {gO : Option Nat} {bs cs : List Value} {w w' : World} (h : Snk KP B bb bw bf gO bs cs w) (hb : Below w.heap.size w w') : Snk KP B bb bw bf gO bs cs w' := by
  obtain ⟨ar, h1, h2, h3⟩ := h.arr
  have hbuf : Buf B bb gO bs w' := by
    obtain ⟨hB, v, lr, hbk, hown, hv, hne⟩ := h.buf
    exact ⟨hB, v, lr, by rw [hb.block _ (Lib.lt_of_heap hbk)]; exact hbk, ownsRow_later hown hb, hv, hne⟩
  exact ⟨hbuf, by rw [hb.block _ (Lib.lt_of_heap h.wr)]; exact h.wr, ⟨ar, by rw [hb.block _ (Lib.lt_of_heap h1)]; exact h1, h2, h3⟩, h.len, h.hBw, h.hBf, h.n1, h.n2, h.n3, h.g1, h.g2, h.one, h.onec, fun k X hk => by obtain ⟨a1, a2⟩ := h.kp k X hk; exact ⟨by rw [hb.block _ (Array.getElem?_eq_some_iff.1 a1).1]; exact a1, a2⟩⟩

theorem Holds.later {KP : Option (Nat × Obj)} {B bb bw bf : Nat} {out : List Value} {w w' : World} (h : Holds KP B bb bw bf out w) (hb : Below w.heap.size w w') : Holds KP B bb bw bf out w' := by
  obtain ⟨gO, bs, cs, hs, he⟩ := h
  exact ⟨gO, bs, cs, hs.later hb, he⟩

theorem Holds.size {KP : Option (Nat × Obj)} {B bb bw bf : Nat} {out : List Value} {w : World} (h : Holds KP B bb bw bf out w) : B ≤ w.heap.size := by
  obtain ⟨gO, bs, cs, hs, he⟩ := h
  exact hs.size

/-- A block laid anew is kept from here on. -/
theorem Holds.box {KP : Option (Nat × Obj)} {B bb bw bf : Nat} {out : List Value} {w : World} (h : Holds KP B bb bw bf out w) (o : Obj) : Holds (some (w.heap.size, o)) B bb bw bf out (w.alloc o) := by
  obtain ⟨gO, bs, cs, hs, he⟩ := h
  have hs' := hs.later ((Below.refl _ w).alloc (Nat.le_refl _) o)
  refine ⟨gO, bs, cs, ⟨hs'.buf, hs'.wr, hs'.arr, hs'.len, hs'.hBw, hs'.hBf, hs'.n1, hs'.n2, hs'.n3, hs'.g1, hs'.g2, hs'.one, hs'.onec, fun k X hk => ?_⟩, he⟩
  obtain ⟨rfl, rfl⟩ := Prod.mk.inj (Option.some.inj hk)
  obtain ⟨ar, har, _, _⟩ := hs.arr
  obtain ⟨hB, v, lr, hbk, hown, hv, hne⟩ := hs.buf
  have l1 := Lib.lt_of_heap hbk
  have l2 := Lib.lt_of_heap hs.wr
  have l3 := Lib.lt_of_heap har
  refine ⟨heap_alloc_new w o, by omega, by omega, by omega, fun hg => ?_⟩
  have := (hown.lt _ (by rw [hv]; exact hg)).2
  omega

theorem Holds.kept {k : Nat} {X : Obj} {B bb bw bf : Nat} {out : List Value} {w : World} (h : Holds (some (k, X)) B bb bw bf out w) : w.heap[k]? = some X := by
  obtain ⟨gO, bs, cs, hs, he⟩ := h
  exact (hs.kp k X rfl).1

theorem heap_three (w : World) (o1 o2 o3 : Obj) : (((w.alloc o1).alloc o2).alloc o3).heap[w.heap.size]? = some o1 ∧ (((w.alloc o1).alloc o2).alloc o3).heap[w.heap.size + 1]? = some o2 ∧ (((w.alloc o1).alloc o2).alloc o3).heap[w.heap.size + 2]? = some o3 ∧ Below w.heap.size w (((w.alloc o1).alloc o2).alloc o3) := by
  have h1 : Below w.heap.size w (w.alloc o1) := (Below.refl _ w).alloc (Nat.le_refl _) _
  have h2 : Below w.heap.size w ((w.alloc o1).alloc o2) := h1.alloc (by simp) _
  have h3 : Below w.heap.size w (((w.alloc o1).alloc o2).alloc o3) := h2.alloc (by simp; omega) _
  have n1 := heap_alloc_new w o1
  have n2 := heap_alloc_new (w.alloc o1) o2
  have n3 := heap_alloc_new ((w.alloc o1).alloc o2) o3
  have s1 : (w.alloc o1).heap.size = w.heap.size + 1 := by simp
  have s2 : ((w.alloc o1).alloc o2).heap.size = w.heap.size + 2 := by simp
  rw [s1] at n2
  rw [s2] at n3
  have k2 : Below (w.heap.size + 1) (w.alloc o1) ((w.alloc o1).alloc o2) := (Below.refl _ _).alloc (by omega) _
  have k3 : Below (w.heap.size + 2) ((w.alloc o1).alloc o2) (((w.alloc o1).alloc o2).alloc o3) := (Below.refl _ _).alloc (by omega) _
  exact ⟨by rw [k3.block _ (by omega), k2.block _ (by omega)]; exact n1, by rw [k3.block _ (by omega)]; exact n2, n3, h3⟩

theorem assert_no (a : Addr) (w : World) : (Instr.typeAssert (.iface 29 (.pointer (some a))) 55 28 true).run Tryd.prog w = .ok (.tuple #[.pointer none, .bool false]) w := by kernel_rfl

theorem newBuffer_any (v : Value) (x : Option Addr) (n c : Nat) (hv : v = .slice x n c) (w : World) :
    Calls Tryd.prog 16 #[v] w fun e w' => e = .returned (.pointer (some ⟨w.heap.size, 0, none⟩)) ∧ w' = w.alloc (.cells #[v, .int .i64 0, .int .i8 0] 53) := by
  subst hv
  go_enter Tryd.func16, Tryd.ntmps16
  go_wp2
  go_ret
  exact ⟨rfl, rfl⟩

set_option maxHeartbeats 1000000 in
theorem newWriterSize_any (a : Addr) (M : Array Value) (hmk : ∀ W : World, (Instr.makeSlice 22 (.int .i64 4096) (.int .i64 4096)).run Tryd.prog W = .ok (.slice (some ⟨W.heap.size, 0, none⟩) 4096 4096) (W.alloc (.cells M 5))) (w : World) :
    Calls Tryd.prog 25 #[.iface 29 (.pointer (some a)), .int .i64 4096] w fun e w' => e = .returned (.pointer (some ⟨w.heap.size + 1, 0, none⟩)) ∧
      w' = (w.alloc (.cells M 5)).alloc (.cells #[.nilIface, .slice (some ⟨w.heap.size, 0, none⟩) 4096 4096, .int .i64 0, .iface 29 (.pointer (some a))] 61) := by
  have hta := assert_no a
  go_enter Tryd.func25, Tryd.ntmps25
  go_wp2
  go_ret
  exact ⟨rfl, rfl⟩

set_option maxHeartbeats 1000000 in
theorem newWriter_any (a : Addr) (M : Array Value) (hmk : ∀ W : World, (Instr.makeSlice 22 (.int .i64 4096) (.int .i64 4096)).run Tryd.prog W = .ok (.slice (some ⟨W.heap.size, 0, none⟩) 4096 4096) (W.alloc (.cells M 5))) (w : World) :
    Calls Tryd.prog 17 #[.iface 29 (.pointer (some a))] w fun e w' => e = .returned (.pointer (some ⟨w.heap.size + 1, 0, none⟩)) ∧
      w' = (w.alloc (.cells M 5)).alloc (.cells #[.nilIface, .slice (some ⟨w.heap.size, 0, none⟩) 4096 4096, .int .i64 0, .iface 29 (.pointer (some a))] 61) := by
  have hc := Lib.hid (newWriterSize_any a M hmk)
  clear hmk
  go_enter Tryd.func17, Tryd.ntmps17
  go_wp2_with (go_at_call 25; refine (hc.out _).mono ?_; rintro e w' ⟨rfl, rfl⟩)
  go_ret
  exact ⟨rfl, rfl⟩

set_option maxHeartbeats 1000000 in
theorem newSink_any (B : Nat) (v : Value) (x : Option Addr) (n c : Nat) (hv : v = .slice x n c) (bs : List Value) (w : World) (hB : B ≤ w.heap.size) (hown : w.ownsRow B 5 1 v bs.length bs) (hone : ∀ y ∈ bs, y.oneCell' = true) :
    Calls Tryd.prog 8 #[v] w fun e w' => e = .returned (.tuple #[.pointer (some ⟨w.heap.size + 2, 0, none⟩), .pointer (some ⟨w.heap.size, 0, none⟩)]) ∧ Snk none B w.heap.size (w.heap.size + 2) (w.heap.size + 1) v.ownBlock bs [] w' ∧ Below w.heap.size w w' ∧ w'.heap.size = w.heap.size + 3 := by
  obtain ⟨M, hM, hmk0⟩ := make_bytes 4096 (by omega)
  have hmk : ∀ W : World, (Instr.makeSlice 22 (.int .i64 4096) (.int .i64 4096)).run Tryd.prog W = .ok (.slice (some ⟨W.heap.size, 0, none⟩) 4096 4096) (W.alloc (.cells M 5)) := hmk0
  have hc := newWriter_any ⟨w.heap.size, 0, none⟩ M hmk
  have HC := Lib.hid hc
  have HO := Lib.hid hown
  have HV := Lib.hid hv
  clear hmk0 hmk hown hc hv
  go_enter Tryd.func8, Tryd.ntmps8
  go_wp2_with (first | (go_at_call 16; refine (newBuffer_any v x n c HV.out _).mono ?_; rintro e w' ⟨rfl, rfl⟩) | (go_at_call 17; refine (HC.out _).mono ?_; rintro e w' ⟨rfl, rfl⟩))
  go_ret2
  have h3 := heap_three w (.cells #[v, .int .i64 0, .int .i8 0] 53) (.cells M 5) (.cells #[.nilIface, .slice (some ⟨w.heap.size + 1, 0, none⟩) 4096 4096, .int .i64 0, .iface 29 (.pointer (some ⟨w.heap.size, 0, none⟩))] 61)
  obtain ⟨e1, e2, e3, hb⟩ := h3
  have hl := fun k hk => (HO.out.lt k hk)
  refine ⟨rfl, ⟨⟨hB, v, 0, e1, ownsRow_later HO.out hb, rfl, fun hk => ?_⟩, e3, ⟨M, e2, hM, rfl⟩, by simp, by omega, by omega, by omega, by omega, by omega, fun hk => ?_, fun hk => ?_, hone, by simp, fun k X hk => by cases hk⟩, hb, ?_⟩
  · have := (hl _ hk).2; omega
  · have := (hl _ hk).2; omega
  · have := (hl _ hk).2; omega
  · simp

end Go.Proofs.Qxb6614942aDoor
