/-
  THE LAW 'FnListEndIsTheByteAfterEachName': its walk.
-/
import Derived.Test.Qxb6614942aDoorLst8
import Derived.Deep.DeepMust
namespace Go.Proofs.Qxb6614942aDoor
open Go.RowKit

attribute [local go_sem] Go.wp_at_zero Go.wp_at_succ

theorem bytes_quote_length (T : Lib.PrintTabs) (s : ByteArray) : (Lib.bytesOf (Lib.quoteZ T s)).length = (Lib.quoteZ T s).length := by simp [Lib.bytesOf]

theorem size_list (l : List UInt8) : (⟨l.toArray⟩ : ByteArray).size = l.length := by simp [ByteArray.size]

theorem enc_len (T : Lib.PrintTabs) (q : Bool) (l : List UInt8) : l.length ≤ (enc T q l).length := by
  unfold enc
  split
  · have := quote_len T ⟨l.toArray⟩
    rw [bytes_quote_length, ← size_list l]
    omega
  · exact Nat.le_refl _

theorem enc_bound (T : Lib.PrintTabs) (q : Bool) (l : List UInt8) : (enc T q l).length ≤ 10 * l.length + 2 := by
  unfold enc
  split
  · have := Lib.quoteZ_length_le T ⟨l.toArray⟩
    rw [size_list l] at this
    rw [bytes_quote_length]
    omega
  · omega

theorem rd_append_left (a b : List UInt8) (i : Nat) (h : i < a.length) : rd (a ++ b) i = rd a i := by
  unfold rd; simp [List.getD_eq_getElem?_getD, List.getElem?_append_left h]

theorem rd_append_right (a b : List UInt8) (i : Nat) : rd (a ++ b) (a.length + i) = rd b i := by
  unfold rd; simp [List.getD_eq_getElem?_getD, List.getElem?_append_right]

theorem out_cells (e8 : UInt8) (e : Int) (he : e = e8.toNat) (a m : List UInt8) : Lib.byteCells a ++ Lib.byteCells m ++ [.int .u8 e] = Lib.byteCells (a ++ m ++ [e8]) := by
  subst he
  simp [Lib.byteCells]

/-- List.Write, in bytes. -/
theorem listWrite_bytes (T : Lib.PrintTabs) (KP : Option (Nat × Obj)) (B bb bw bf : Nat) (a m : List UInt8) (e8 : UInt8) (e : Int) (he : e = e8.toNat) (q : Bool) (v : Value) (l : List UInt8) (hm : enc T q l = m) (w : World) (h : Holds KP B bb bw bf (Lib.byteCells a) w) (hv : At B w v l)
    (hT : Lib.PrintTabsAt 4 5 6 7 T w) (hU : Lib.Utf8Tabs 2 3 w) (hl : l.length ≤ 1048576) (hlim : a.length ≤ 100000000) :
    Calls Tryd.prog 9 #[.agg #[.int .u8 e, .bool q], .pointer (some ⟨bw, 0, none⟩), v] w fun z w' => z = .returned .nilIface ∧ (∃ K, Holds K B bb bw bf (Lib.byteCells (a ++ m ++ [e8])) w') ∧ Below B w w' := by
  rw [← out_cells e8 e he, ← hm]
  exact listWrite T KP B bb bw bf _ e q v l w h hv.nm hT hU hl (by rw [Lib.byteCells_length]; exact hlim)

/-- ZZsinkBytes, in bytes. -/
theorem sinkBytes_bytes (KP : Option (Nat × Obj)) (B bb bw bf N : Nat) (L : List UInt8) (w : World) (h : Holds KP B bb bw bf (Lib.byteCells L) w) (hN : L.length = N) (h0 : 0 < N) (hlim : N ≤ 140737488355328) :
    Calls Tryd.prog 10 #[.pointer (some ⟨bw, 0, none⟩), .pointer (some ⟨bb, 0, none⟩)] w fun e w' => ∃ g cap, e = .returned (.slice (some ⟨g, 0, none⟩) N cap) ∧ N ≤ cap ∧ cap ≤ 9223372036854775807 ∧ Row w' g 0 N (rd L) ∧ Below B w w' := by
  refine (sinkBytes_any KP B bb bw bf _ w h (by rw [Lib.byteCells_length]; omega)).mono ?_
  rintro e w' ⟨v, rfl, hown, hb⟩
  obtain ⟨g, cap, rfl, h1, h2, h3⟩ := out_row hown (by intro h; rw [h] at hN; simp at hN; omega)
  subst hN
  exact ⟨g, cap, rfl, h1, h2, h3, hb⟩

theorem listCells {e : Int} {q : Bool} {w2 w5 : World} (hb : Below (w2.alloc (.cells #[.int .u8 e, .bool q] 26)).heap.size (w2.alloc (.cells #[.int .u8 e, .bool q] 26)) w5) :
    w5.cell? ⟨w2.heap.size, 0, none⟩ = some (.int .u8 e) ∧ w5.cell? ⟨w2.heap.size, 1, none⟩ = some (.bool q) := by
  have hh : w5.heap[w2.heap.size]? = _ := (hb.block w2.heap.size (by simp)).trans (heap_alloc_new w2 _)
  exact ⟨by rw [Lib.cell_of_heap hh]; rfl, by rw [Lib.cell_of_heap hh]; rfl⟩

theorem Row.later {w w' : World} {b o n : Nat} {f : Nat → Int} (h : Row w b o n f) (hb : Below w.heap.size w w') : Row w' b o n f := fun i hi => cell_later hb (h i hi)

theorem last_cell {w : World} {g N : Nat} {a : List UInt8} {e8 : UInt8} {e : Int} (h : Row w g 0 N (rd (a ++ [e8]))) (hN : (a ++ [e8]).length = N) (he : e = e8.toNat) (q : Nat) : (w.drewN q).cell? ⟨g, N - 1, none⟩ = some (.int .u8 e) := by
  have hl : a.length = N - 1 := by simp at hN; omega
  have := h (N - 1) (by simp at hN; omega)
  rw [Nat.zero_add] at this
  have e1 : rd (a ++ [e8]) (N - 1) = e := by
    rw [← hl, he]
    exact rd_append_right a [e8] 0
  rw [e1] at this
  exact this

theorem below_new (w : World) (o : Obj) : Below w.heap.size w (w.alloc o) := (Below.refl _ w).alloc (Nat.le_refl _) o

set_option maxRecDepth 100000 in
set_option maxHeartbeats 1000000 in
theorem law4_long (T : Lib.PrintTabs) (e8 : UInt8) (e : Int) (he : e = e8.toNat) (q : Bool) (x2 x3 : Option Addr) (n2 n3 c2 c3 : Nat) (d l : List UInt8) (w : World) (h2 : At w.heap.size w (.slice x2 n2 c2) d) (h3 : At w.heap.size w (.slice x3 n3 c3) l) (hn2 : d.length = n2) (hn3 : l.length = n3)
    (hT : Lib.PrintTabsAt 4 5 6 7 T w) (hU : Lib.Utf8Tabs 2 3 w) (k2 : n2 ≤ 262144) (k3 : n3 ≤ 262144) :
    Calls Tryd.prog 4 #[.int .u8 e, .bool q, .slice x2 n2 c2, .slice x3 n3 c3] w fun z w' => z = .returned (.bool true) ∧ Below w.heap.size w w' := by
  have H2 := Lib.hid h2
  have H3 := Lib.hid h3
  have HT := Lib.hid hT
  have HU := Lib.hid hU
  have HE := Lib.hid he
  have HN2 := Lib.hid hn2
  have HN3 := Lib.hid hn3
  have hm1 := enc_len T q l
  have hm2 := enc_bound T q l
  rw [hn3] at hm1 hm2
  generalize hm : enc T q l = m at hm1 hm2
  have HM := Lib.hid hm
  generalize hM : m.length = M at hm1 hm2
  have HML := Lib.hid hM
  generalize hN : n2 + M + 1 = N
  have HNL := Lib.hid (show (d ++ m ++ [e8]).length = N by simp; omega)
  have i2 : ¬ (262144 : Int) < n2 := by omega
  have i3 : ¬ (262144 : Int) < n3 := by omega
  have i4 : ¬ (N : Int) < n2 + n3 + 1 := by omega
  clear h2 h3 hT hU he hn2 hn3 hm hM
  go_enter Tryd.func4, Tryd.ntmps4
  go_wp2_with (first
    | (go_at_call 15; go_must (refine (bound15_ok e q x2 x3 n2 n3 c2 c3 w (by omega)).mono ?_; rintro z w' ⟨rfl, rfl⟩))
    | (go_at_call 6; (
        have B3 := Lib.hid (B2.out.trans ((Below.refl w1.heap.size w2).alloc B2.out.size (.cells #[.int .u8 e, .bool q] 26)));
        refine (clone_any w1.heap.size n2 (.slice y n2 cy) d _ (D1.out.later B3.out) HN2.out (by omega)).mono ?_;
        rintro z w4 ⟨y4, cy4, rfl, hat4, hown4, hb4⟩; have O4 := Lib.hid hown4; have B4 := Lib.hid hb4; clear hat4 hown4 hb4))
    | (go_at_call 6; go_must (refine (clone_any w.heap.size n2 (.slice x2 n2 c2) d w H2.out HN2.out (by omega)).mono ?_; rintro z w1 ⟨y, cy, rfl, hat1, hown1, hb1⟩; have D1 := Lib.hid hat1; have B1 := Lib.hid hb1; clear hat1 hown1 hb1))
    | (go_at_call 7; go_must (refine (newList_any e q w1).mono ?_; rintro z w2 ⟨rfl, hs2, hb2⟩; have B2 := Lib.hid hb2; clear hb2 hs2))
    | (go_at_call 8; go_must (
        refine (newSink_any (w2.alloc (.cells #[.int .u8 e, .bool q] 26)).heap.size (.slice y4 n2 cy4) y4 n2 cy4 rfl (Lib.byteCells d) w4 B4.out.size O4.out (Lib.byteCells_one d)).mono ?_;
        rintro z w5 ⟨rfl, hs5, hb5, _⟩;
        have S5 := Lib.hid hs5;
        have B5 := Lib.hid (B4.out.trans (below_le hb5 B4.out.size));
        have BW := Lib.hid (B1.out.trans ((below_le B3.out B1.out.size).trans (below_le B5.out (Nat.le_trans B1.out.size B3.out.size))));
        clear hs5 hb5;
        obtain ⟨f0, f1⟩ := listCells B5.out))
    | (go_at_call 9; go_must (
        refine (listWrite_bytes T none (w2.alloc (.cells #[.int .u8 e, .bool q] 26)).heap.size w4.heap.size (w4.heap.size + 2) (w4.heap.size + 1) d m e8 e HE.out q (.slice x3 n3 c3) l HM.out w5 ⟨_, _, [], S5.out, by rw [List.append_nil]⟩
          ((H3.out.later BW.out).le (Nat.le_trans B1.out.size B3.out.size)) (printTabs_below HT.out BW.out) (Utf8Tabs_below HU.out BW.out) (by rw [HN3.out]; omega) (by rw [HN2.out]; omega)).mono ?_;
        rintro z w6 ⟨rfl, ⟨K6, hh6⟩, hb6⟩;
        have S6 := Lib.hid hh6; have B6 := Lib.hid (B5.out.trans hb6); clear hh6 hb6))
    | (go_at_call 10; go_must (
        refine (sinkBytes_bytes K6 _ _ _ _ N (d ++ m ++ [e8]) w6 S6.out HNL.out (by omega) (by omega)).mono ?_;
        rintro z w7 ⟨g, cap, rfl, hc1, hc2, hrow, hb7⟩;
        have R7 := Lib.hid hrow; have B7 := Lib.hid (B6.out.trans hb7); clear hrow hb7;
        obtain ⟨f0, f1⟩ := listCells B7.out))
    | (go_at_call 11; go_must (
        refine (end_any e q w7).mono ?_;
        rintro z w8 ⟨rfl, rfl⟩))
    | (go_at_call 12; go_must (
        have B8 := Lib.hid (B7.out.trans (below_le (below_new w7 (.cells #[.int .u8 e, .bool q] 26)) B7.out.size));
        have R8 := Lib.hid (R7.out.later (below_new w7 (.cells #[.int .u8 e, .bool q] 26)));
        refine (same_at w1.heap.size g 0 cap y cy n2 d _ HN2.out (by omega) (D1.out.later (B3.out.trans (below_le B8.out B3.out.size))) (R8.out.part 0 n2 (by omega) (rd d) (fun i hi => by rw [Nat.zero_add, List.append_assoc, rd_append_left _ _ _ (by rw [HN2.out]; exact hi)]))).mono ?_;
        rintro z w9 ⟨rfl, q9, rfl⟩;
        have c9 := last_cell R8.out HNL.out HE.out q9))
    )
  go_ret
  exact ⟨rfl, B1.out.trans ((below_le B3.out B1.out.size).trans (below_le (B8.out.trans (drewN_below _)) (Nat.le_trans B1.out.size B3.out.size)))⟩

set_option maxRecDepth 100000 in
set_option maxHeartbeats 1000000 in
theorem law4 (T : Lib.PrintTabs) (e8 : UInt8) (e : Int) (he : e = e8.toNat) (q : Bool) (x2 x3 : Option Addr) (n2 n3 c2 c3 : Nat) (d l : List UInt8) (w : World) (h2 : At w.heap.size w (.slice x2 n2 c2) d) (h3 : At w.heap.size w (.slice x3 n3 c3) l) (hn2 : d.length = n2) (hn3 : l.length = n3)
    (hT : Lib.PrintTabsAt 4 5 6 7 T w) (hU : Lib.Utf8Tabs 2 3 w) :
    Calls Tryd.prog 4 #[.int .u8 e, .bool q, .slice x2 n2 c2, .slice x3 n3 c3] w fun z w' => z = .returned (.bool true) ∧ Below w.heap.size w w' := by
  by_cases hs : n2 + n3 ≤ 1048576
  · by_cases k2 : n2 ≤ 262144
    · by_cases k3 : n3 ≤ 262144
      · exact law4_long T e8 e he q x2 x3 n2 n3 c2 c3 d l w h2 h3 hn2 hn3 hT hU k2 k3
      · clear h2 h3 hT hU hn2 hn3 he
        have i2 : ¬ (262144 : Int) < n2 := by omega
        have i3 : (262144 : Int) < n3 := by omega
        go_enter Tryd.func4, Tryd.ntmps4
        go_wp2_with (first | (go_at_call 15; go_must (refine (bound15_ok e q x2 x3 n2 n3 c2 c3 w (by omega)).mono ?_; rintro z w' ⟨rfl, rfl⟩)) | (go_at_call 6; go_must (fail)))
        go_ret
        exact ⟨rfl, Below.refl _ _⟩
    · clear h2 h3 hT hU hn2 hn3 he
      have i2 : (262144 : Int) < n2 := by omega
      go_enter Tryd.func4, Tryd.ntmps4
      go_wp2_with (first | (go_at_call 15; go_must (refine (bound15_ok e q x2 x3 n2 n3 c2 c3 w (by omega)).mono ?_; rintro z w' ⟨rfl, rfl⟩)) | (go_at_call 6; go_must (fail)))
      go_ret
      exact ⟨rfl, Below.refl _ _⟩
  · clear h2 h3 hT hU hn2 hn3 he
    go_enter Tryd.func4, Tryd.ntmps4
    go_wp2_with (first | (go_at_call 15; go_must (refine (bound15_no e q x2 x3 n2 n3 c2 c3 w (by omega)).mono ?_; rintro z w' ⟨rfl, rfl⟩)) | (go_at_call 6; go_must (fail)))
    go_ret
    exact ⟨rfl, Below.refl _ _⟩

end Go.Proofs.Qxb6614942aDoor
