/-
  THE LAW 'FnListWriteQuotedBreaksKeepOneLineEach': its walk.
-/
import Derived.Test.Qxb6614942aDoorRec
namespace Go.Proofs.Qxb6614942aDoor
open Go.RowKit

attribute [local go_sem] Go.wp_at_zero Go.wp_at_succ

/-- What was written of two names behind dst. -/
def two (d ma mb : List UInt8) (e8 : UInt8) : List UInt8 := d ++ ma ++ [e8] ++ mb ++ [e8]

theorem two_eq (d ma mb : List UInt8) (e8 : UInt8) : two d ma mb e8 = d ++ (ma ++ ([e8] ++ (mb ++ [e8]))) := by simp [two]

theorem two_len (d ma mb : List UInt8) (e8 : UInt8) : (two d ma mb e8).length = d.length + (ma.length + 1 + (mb.length + 1)) := by simp [two]; omega

theorem two_0 {d ma mb : List UInt8} {e8 : UInt8} {n : Nat} (hd : d.length = n) : ∀ i, i < n → rd d i = rd (two d ma mb e8) (0 + i) := by
  intro i hi
  rw [Nat.zero_add, two_eq, rd_append_left _ _ _ (by omega)]

theorem two_1 {d ma mb : List UInt8} {e8 : UInt8} {n m : Nat} (hd : d.length = n) (ha : ma.length = m) : ∀ i, i < m → rd ma i = rd (two d ma mb e8) (n + i) := by
  intro i hi
  subst hd
  rw [two_eq, rd_append_right, rd_append_left _ _ _ (by omega)]

theorem two_2 {d ma mb : List UInt8} {e8 : UInt8} {n m : Nat} {e : Int} (hd : d.length = n) (ha : ma.length = m) (he : e = e8.toNat) : rd (two d ma mb e8) (n + m) = e := by
  subst hd ha he
  have h := rd_append_right ma ([e8] ++ (mb ++ [e8])) 0
  rw [Nat.add_zero] at h
  rw [two_eq, rd_append_right, h]
  rfl

theorem two_3 {d ma mb : List UInt8} {e8 : UInt8} {n m k : Nat} (hd : d.length = n) (ha : ma.length = m) (hb : mb.length = k) : ∀ i, i < k → rd mb i = rd (two d ma mb e8) (n + (m + 1) + i) := by
  intro i hi
  subst hd ha hb
  have e1 : d.length + (ma.length + 1) + i = d.length + (ma.length + ([e8].length + i)) := by simp; omega
  rw [e1, two_eq, rd_append_right, rd_append_right, rd_append_right, rd_append_left _ _ _ hi]

theorem two_4 {d ma mb : List UInt8} {e8 : UInt8} {n m k : Nat} {e : Int} (hd : d.length = n) (ha : ma.length = m) (hb : mb.length = k) (he : e = e8.toNat) : rd (two d ma mb e8) (n + (m + 1) + k) = e := by
  subst hd ha hb he
  have e1 : d.length + (ma.length + 1) + mb.length = d.length + (ma.length + ([e8].length + (mb.length + 0))) := by simp; omega
  rw [e1, two_eq, rd_append_right, rd_append_right, rd_append_right, rd_append_right]
  rfl

theorem Row.part0 {w : World} {b n : Nat} {f : Nat → Int} (h : Row w b 0 n f) (k m : Nat) (hk : k + m ≤ n) (g : Nat → Int) (hg : ∀ i, i < m → g i = f (k + i)) : Row w b k m g := by
  have := h.part k m hk g hg
  rw [Nat.zero_add] at this
  exact this

theorem Row.at {w : World} {b n : Nat} {f : Nat → Int} (h : Row w b 0 n f) (k : Nat) (hk : k < n) (v : Int) (hv : f k = v) : w.cell? ⟨b, k, none⟩ = some (.int .u8 v) := by
  have := h k hk
  rw [Nat.zero_add, hv] at this
  exact this

set_option maxRecDepth 100000 in
set_option maxHeartbeats 1000000 in
theorem law3_10 (T : Lib.PrintTabs) (e8 : UInt8) (he : (10 : Int) = e8.toNat) (x2 x3 x4 : Option Addr) (n2 n3 n4 c2 c3 c4 : Nat) (d a b : List UInt8) (w : World) (h2 : At w.heap.size w (.slice x2 n2 c2) d) (h3 : At w.heap.size w (.slice x3 n3 c3) a) (h4 : At w.heap.size w (.slice x4 n4 c4) b)
    (hn2 : d.length = n2) (hn3 : a.length = n3) (hn4 : b.length = n4) (hT : Lib.PrintTabsAt 4 5 6 7 T w) (hU : Lib.Utf8Tabs 2 3 w) (k2 : n2 ≤ 262144) (k3 : n3 ≤ 262144) (k4 : n4 ≤ 262144) :
    Calls Tryd.prog 3 #[.int .u8 10, .bool true, .slice x2 n2 c2, .slice x3 n3 c3, .slice x4 n4 c4] w fun z w' => z = .returned (.bool true) ∧ Below w.heap.size w w' := by
  have H2 := Lib.hid h2
  have H3 := Lib.hid h3
  have H4 := Lib.hid h4
  have HT := Lib.hid hT
  have HU := Lib.hid hU
  have HE := Lib.hid he
  have HN2 := Lib.hid hn2
  have HN3 := Lib.hid hn3
  have HN4 := Lib.hid hn4
  have ha2 := enc_bound T true a
  have hb2 := enc_bound T true b
  rw [hn3] at ha2
  rw [hn4] at hb2
  have XA := Lib.hid (enc_nobreak T a)
  have XB := Lib.hid (enc_nobreak T b)
  have PA := Lib.hid (fun B g o cap m c x w h h1 h2 h3 h4 => record_at T B g o cap n3 m c x a w h h1 h2 h3 h4)
  have PB := Lib.hid (fun B g o cap m c x w h h1 h2 h3 h4 => record_at T B g o cap n4 m c x b w h h1 h2 h3 h4)
  generalize hma : enc T true a = ma at ha2 XA PA
  generalize hmb : enc T true b = mb at hb2 XB PB
  have HMA := Lib.hid hma
  have HMB := Lib.hid hmb
  have hNL := two_len d ma mb e8
  rw [hn2] at hNL
  generalize hMA : ma.length = MA at ha2 XA hNL
  generalize hMB : mb.length = MB at hb2 XB hNL
  have LA := Lib.hid hMA
  have LB := Lib.hid hMB
  generalize hN : n2 + (MA + 1 + (MB + 1)) = N at hNL
  have HNL := Lib.hid hNL
  generalize hA : N - n2 = A
  have hR : A - (MA + 1) = MB + 1 := by omega
  have a1 : A ≤ MA + 1 + (MB + 1) := by omega
  have a2 : MA + 1 + (MB + 1) ≤ A := by omega
  have a3 : N ≤ n2 + A := by omega
  have a4 : n2 + A ≤ N := by omega
  have i2 : ¬ (262144 : Int) < n2 := by omega
  have i3 : ¬ (262144 : Int) < n3 := by omega
  have i4 : ¬ (262144 : Int) < n4 := by omega
  have i5 : ¬ (N : Int) < n2 := by omega
  clear h2 h3 h4 hT hU he hn2 hn3 hn4 hma hmb hMA hMB hNL hN
  go_enter Tryd.func3, Tryd.ntmps3
  go_wp2_with (first
    | (go_at_call 5; go_must (refine (bound5_ok 10 true x2 x3 x4 n2 n3 n4 c2 c3 c4 w (by omega)).mono ?_; rintro z w' ⟨rfl, rfl⟩))
    | (go_at_call 6; (
        have B3 := Lib.hid (B2.out.trans ((Below.refl w1.heap.size w2).alloc B2.out.size (.cells #[.int .u8 10, .bool true] 26)));
        refine (clone_any w1.heap.size n2 (.slice y n2 cy) d _ (D1.out.later B3.out) HN2.out (by omega)).mono ?_;
        rintro z w4 ⟨y4, cy4, rfl, hat4, hown4, hb4⟩; have O4 := Lib.hid hown4; have B4 := Lib.hid hb4; clear hat4 hown4 hb4))
    | (go_at_call 6; go_must (refine (clone_any w.heap.size n2 (.slice x2 n2 c2) d w H2.out HN2.out (by omega)).mono ?_; rintro z w1 ⟨y, cy, rfl, hat1, hown1, hb1⟩; have D1 := Lib.hid hat1; have B1 := Lib.hid hb1; clear hat1 hown1 hb1))
    | (go_at_call 7; go_must (refine (newList_any 10 true w1).mono ?_; rintro z w2 ⟨rfl, hs2, hb2⟩; have B2 := Lib.hid hb2; clear hb2 hs2))
    | (go_at_call 8; go_must (
        refine (newSink_any (w2.alloc (.cells #[.int .u8 10, .bool true] 26)).heap.size (.slice y4 n2 cy4) y4 n2 cy4 rfl (Lib.byteCells d) w4 B4.out.size O4.out (Lib.byteCells_one d)).mono ?_;
        rintro z w5 ⟨rfl, hs5, hb5, _⟩;
        have S5 := Lib.hid hs5;
        have B5 := Lib.hid (B4.out.trans (below_le hb5 B4.out.size));
        have BW := Lib.hid (B1.out.trans ((below_le B3.out B1.out.size).trans (below_le B5.out (Nat.le_trans B1.out.size B3.out.size))));
        clear hs5 hb5;
        obtain ⟨f0, f1⟩ := listCells B5.out))
    | (go_at_call 9; (
        refine (listWrite_bytes T K6 (w2.alloc (.cells #[.int .u8 10, .bool true] 26)).heap.size w4.heap.size (w4.heap.size + 2) (w4.heap.size + 1) (d ++ ma ++ [e8]) mb e8 10 HE.out true (.slice x4 n4 c4) b HMB.out w6 S6.out
          ((H4.out.later BW6.out).le (Nat.le_trans B1.out.size B3.out.size)) (printTabs_below HT.out BW6.out) (Utf8Tabs_below HU.out BW6.out) (by rw [HN4.out]; omega) (by have := HN2.out; have := LA.out; simp; omega)).mono ?_;
        rintro z w7 ⟨rfl, ⟨K7, hh7⟩, hb7⟩;
        have S7 := Lib.hid hh7; have B7 := Lib.hid (B6.out.trans hb7); clear hh7 hb7))
    | (go_at_call 9; go_must (
        refine (listWrite_bytes T none (w2.alloc (.cells #[.int .u8 10, .bool true] 26)).heap.size w4.heap.size (w4.heap.size + 2) (w4.heap.size + 1) d ma e8 10 HE.out true (.slice x3 n3 c3) a HMA.out w5 ⟨_, _, [], S5.out, by rw [List.append_nil]⟩
          ((H3.out.later BW.out).le (Nat.le_trans B1.out.size B3.out.size)) (printTabs_below HT.out BW.out) (Utf8Tabs_below HU.out BW.out) (by rw [HN3.out]; omega) (by rw [HN2.out]; omega)).mono ?_;
        rintro z w6 ⟨rfl, ⟨K6, hh6⟩, hb6⟩;
        have S6 := Lib.hid hh6; have B6 := Lib.hid (B5.out.trans hb6); clear hh6 hb6;
        have BW6 := Lib.hid (B1.out.trans ((below_le B3.out B1.out.size).trans (below_le B6.out (Nat.le_trans B1.out.size B3.out.size))));
        obtain ⟨f0, f1⟩ := listCells B6.out))
    | (go_at_call 10; go_must (
        refine (sinkBytes_bytes K7 _ _ _ _ N (two d ma mb e8) w7 S7.out HNL.out (by omega) (by omega)).mono ?_;
        rintro z w8 ⟨g, cap, rfl, hc1, hc2, hrow, hb8⟩;
        have R8 := Lib.hid hrow; have B8 := Lib.hid (B7.out.trans hb8); clear hrow hb8;
        obtain ⟨f0, f1⟩ := listCells B8.out))
    | (go_at_call 11; go_must (
        refine (end_any 10 true w8).mono ?_;
        rintro z w9 ⟨rfl, rfl⟩))
    | (go_at_call 12; go_must (
        have B9 := Lib.hid (B8.out.trans (below_le (below_new w8 (.cells #[.int .u8 10, .bool true] 26)) B8.out.size));
        have R9 := Lib.hid (R8.out.later (below_new w8 (.cells #[.int .u8 10, .bool true] 26)));
        refine (same_at w1.heap.size g 0 cap y cy n2 d _ HN2.out (by omega) (D1.out.later (B3.out.trans (below_le B9.out B3.out.size))) (R9.out.part0 0 n2 (by omega) (rd d) (two_0 HN2.out))).mono ?_;
        rintro z wa ⟨rfl, qa, rfl⟩;
        have BA := Lib.hid (B1.out.trans ((below_le B3.out B1.out.size).trans (below_le (B9.out.trans (drewN_below (q := qa) _)) (Nat.le_trans B1.out.size B3.out.size))));
        have RA := Lib.hid (R9.out.drewN qa);
        have ca := RA.out.at (n2 + MA) (by omega) 10 (two_2 HN2.out LA.out HE.out);
        have cb := RA.out.at (n2 + (MA + 1) + MB) (by omega) 10 (two_4 HN2.out LA.out LB.out HE.out)))
    | (go_at_call 13; (
        have f2 := f1st;
        refine (first_at g (n2 + (MA + 1)) _ (MB + 1) MB _ _ (by omega) (RA.out.part0 (n2 + (MA + 1)) (MB + 1) (by omega) _ (fun _ _ => rfl)) (by omega) (fun i hi => by rw [← two_3 HN2.out LA.out LB.out i hi]; exact XB.out i hi) (by rw [two_4 HN2.out LA.out LB.out HE.out]; omega)).mono ?_;
        rintro z wb ⟨rfl, rfl⟩))
    | (go_at_call 13; go_must (
        have f1st := Lib.hid True.intro;
        refine (first_at g n2 _ A MA _ _ (by omega) (RA.out.part0 n2 A (by omega) _ (fun _ _ => rfl)) (by omega) (fun i hi => by rw [← two_1 HN2.out LA.out i hi]; exact XA.out i hi) (by rw [two_2 HN2.out LA.out HE.out]; omega)).mono ?_;
        rintro z wb ⟨rfl, rfl⟩))
    | (go_at_call 14; (
        have f3 := r1st;
        refine (PB.out w.heap.size g (n2 + (MA + 1)) _ MB c4 x4 _ (H4.out.later (B1.out.trans ((below_le B3.out B1.out.size).trans (below_le (B9.out.trans (drewN_below (q := qa + qb) _)) (Nat.le_trans B1.out.size B3.out.size))))) HN4.out k4 LB.out ((R9.out.drewN (qa + qb)).part0 (n2 + (MA + 1)) MB (by omega) (rd mb) (two_3 HN2.out LA.out LB.out))).mono ?_;
        rintro z wd ⟨rfl, qd, rfl⟩))
    | (go_at_call 14; go_must (
        have r1st := Lib.hid True.intro;
        refine (PA.out w.heap.size g n2 _ MA c3 x3 _ (H3.out.later BA.out) HN3.out k3 LA.out (RA.out.part0 n2 MA (by omega) (rd ma) (two_1 HN2.out LA.out))).mono ?_;
        rintro z wc ⟨rfl, qb, rfl⟩))
    )
  all_goals first | (exfalso; omega) | go_ret
  exact ⟨rfl, B1.out.trans ((below_le B3.out B1.out.size).trans (below_le (B9.out.trans (drewN_below _)) (Nat.le_trans B1.out.size B3.out.size)))⟩

set_option maxRecDepth 100000 in
set_option maxHeartbeats 1000000 in
theorem law3_13 (T : Lib.PrintTabs) (e8 : UInt8) (he : (13 : Int) = e8.toNat) (x2 x3 x4 : Option Addr) (n2 n3 n4 c2 c3 c4 : Nat) (d a b : List UInt8) (w : World) (h2 : At w.heap.size w (.slice x2 n2 c2) d) (h3 : At w.heap.size w (.slice x3 n3 c3) a) (h4 : At w.heap.size w (.slice x4 n4 c4) b)
    (hn2 : d.length = n2) (hn3 : a.length = n3) (hn4 : b.length = n4) (hT : Lib.PrintTabsAt 4 5 6 7 T w) (hU : Lib.Utf8Tabs 2 3 w) (k2 : n2 ≤ 262144) (k3 : n3 ≤ 262144) (k4 : n4 ≤ 262144) :
    Calls Tryd.prog 3 #[.int .u8 13, .bool true, .slice x2 n2 c2, .slice x3 n3 c3, .slice x4 n4 c4] w fun z w' => z = .returned (.bool true) ∧ Below w.heap.size w w' := by
  have H2 := Lib.hid h2
  have H3 := Lib.hid h3
  have H4 := Lib.hid h4
  have HT := Lib.hid hT
  have HU := Lib.hid hU
  have HE := Lib.hid he
  have HN2 := Lib.hid hn2
  have HN3 := Lib.hid hn3
  have HN4 := Lib.hid hn4
  have ha2 := enc_bound T true a
  have hb2 := enc_bound T true b
  rw [hn3] at ha2
  rw [hn4] at hb2
  have XA := Lib.hid (enc_nobreak T a)
  have XB := Lib.hid (enc_nobreak T b)
  have PA := Lib.hid (fun B g o cap m c x w h h1 h2 h3 h4 => record_at T B g o cap n3 m c x a w h h1 h2 h3 h4)
  have PB := Lib.hid (fun B g o cap m c x w h h1 h2 h3 h4 => record_at T B g o cap n4 m c x b w h h1 h2 h3 h4)
  generalize hma : enc T true a = ma at ha2 XA PA
  generalize hmb : enc T true b = mb at hb2 XB PB
  have HMA := Lib.hid hma
  have HMB := Lib.hid hmb
  have hNL := two_len d ma mb e8
  rw [hn2] at hNL
  generalize hMA : ma.length = MA at ha2 XA hNL
  generalize hMB : mb.length = MB at hb2 XB hNL
  have LA := Lib.hid hMA
  have LB := Lib.hid hMB
  generalize hN : n2 + (MA + 1 + (MB + 1)) = N at hNL
  have HNL := Lib.hid hNL
  generalize hA : N - n2 = A
  have hR : A - (MA + 1) = MB + 1 := by omega
  have a1 : A ≤ MA + 1 + (MB + 1) := by omega
  have a2 : MA + 1 + (MB + 1) ≤ A := by omega
  have a3 : N ≤ n2 + A := by omega
  have a4 : n2 + A ≤ N := by omega
  have i2 : ¬ (262144 : Int) < n2 := by omega
  have i3 : ¬ (262144 : Int) < n3 := by omega
  have i4 : ¬ (262144 : Int) < n4 := by omega
  have i5 : ¬ (N : Int) < n2 := by omega
  clear h2 h3 h4 hT hU he hn2 hn3 hn4 hma hmb hMA hMB hNL hN
  go_enter Tryd.func3, Tryd.ntmps3
  go_wp2_with (first
    | (go_at_call 5; go_must (refine (bound5_ok 13 true x2 x3 x4 n2 n3 n4 c2 c3 c4 w (by omega)).mono ?_; rintro z w' ⟨rfl, rfl⟩))
    | (go_at_call 6; (
        have B3 := Lib.hid (B2.out.trans ((Below.refl w1.heap.size w2).alloc B2.out.size (.cells #[.int .u8 13, .bool true] 26)));
        refine (clone_any w1.heap.size n2 (.slice y n2 cy) d _ (D1.out.later B3.out) HN2.out (by omega)).mono ?_;
        rintro z w4 ⟨y4, cy4, rfl, hat4, hown4, hb4⟩; have O4 := Lib.hid hown4; have B4 := Lib.hid hb4; clear hat4 hown4 hb4))
    | (go_at_call 6; go_must (refine (clone_any w.heap.size n2 (.slice x2 n2 c2) d w H2.out HN2.out (by omega)).mono ?_; rintro z w1 ⟨y, cy, rfl, hat1, hown1, hb1⟩; have D1 := Lib.hid hat1; have B1 := Lib.hid hb1; clear hat1 hown1 hb1))
    | (go_at_call 7; go_must (refine (newList_any 13 true w1).mono ?_; rintro z w2 ⟨rfl, hs2, hb2⟩; have B2 := Lib.hid hb2; clear hb2 hs2))
    | (go_at_call 8; go_must (
        refine (newSink_any (w2.alloc (.cells #[.int .u8 13, .bool true] 26)).heap.size (.slice y4 n2 cy4) y4 n2 cy4 rfl (Lib.byteCells d) w4 B4.out.size O4.out (Lib.byteCells_one d)).mono ?_;
        rintro z w5 ⟨rfl, hs5, hb5, _⟩;
        have S5 := Lib.hid hs5;
        have B5 := Lib.hid (B4.out.trans (below_le hb5 B4.out.size));
        have BW := Lib.hid (B1.out.trans ((below_le B3.out B1.out.size).trans (below_le B5.out (Nat.le_trans B1.out.size B3.out.size))));
        clear hs5 hb5;
        obtain ⟨f0, f1⟩ := listCells B5.out))
    | (go_at_call 9; (
        refine (listWrite_bytes T K6 (w2.alloc (.cells #[.int .u8 13, .bool true] 26)).heap.size w4.heap.size (w4.heap.size + 2) (w4.heap.size + 1) (d ++ ma ++ [e8]) mb e8 13 HE.out true (.slice x4 n4 c4) b HMB.out w6 S6.out
          ((H4.out.later BW6.out).le (Nat.le_trans B1.out.size B3.out.size)) (printTabs_below HT.out BW6.out) (Utf8Tabs_below HU.out BW6.out) (by rw [HN4.out]; omega) (by have := HN2.out; have := LA.out; simp; omega)).mono ?_;
        rintro z w7 ⟨rfl, ⟨K7, hh7⟩, hb7⟩;
        have S7 := Lib.hid hh7; have B7 := Lib.hid (B6.out.trans hb7); clear hh7 hb7))
    | (go_at_call 9; go_must (
        refine (listWrite_bytes T none (w2.alloc (.cells #[.int .u8 13, .bool true] 26)).heap.size w4.heap.size (w4.heap.size + 2) (w4.heap.size + 1) d ma e8 13 HE.out true (.slice x3 n3 c3) a HMA.out w5 ⟨_, _, [], S5.out, by rw [List.append_nil]⟩
          ((H3.out.later BW.out).le (Nat.le_trans B1.out.size B3.out.size)) (printTabs_below HT.out BW.out) (Utf8Tabs_below HU.out BW.out) (by rw [HN3.out]; omega) (by rw [HN2.out]; omega)).mono ?_;
        rintro z w6 ⟨rfl, ⟨K6, hh6⟩, hb6⟩;
        have S6 := Lib.hid hh6; have B6 := Lib.hid (B5.out.trans hb6); clear hh6 hb6;
        have BW6 := Lib.hid (B1.out.trans ((below_le B3.out B1.out.size).trans (below_le B6.out (Nat.le_trans B1.out.size B3.out.size))));
        obtain ⟨f0, f1⟩ := listCells B6.out))
    | (go_at_call 10; go_must (
        refine (sinkBytes_bytes K7 _ _ _ _ N (two d ma mb e8) w7 S7.out HNL.out (by omega) (by omega)).mono ?_;
        rintro z w8 ⟨g, cap, rfl, hc1, hc2, hrow, hb8⟩;
        have R8 := Lib.hid hrow; have B8 := Lib.hid (B7.out.trans hb8); clear hrow hb8;
        obtain ⟨f0, f1⟩ := listCells B8.out))
    | (go_at_call 11; go_must (
        refine (end_any 13 true w8).mono ?_;
        rintro z w9 ⟨rfl, rfl⟩))
    | (go_at_call 12; go_must (
        have B9 := Lib.hid (B8.out.trans (below_le (below_new w8 (.cells #[.int .u8 13, .bool true] 26)) B8.out.size));
        have R9 := Lib.hid (R8.out.later (below_new w8 (.cells #[.int .u8 13, .bool true] 26)));
        refine (same_at w1.heap.size g 0 cap y cy n2 d _ HN2.out (by omega) (D1.out.later (B3.out.trans (below_le B9.out B3.out.size))) (R9.out.part0 0 n2 (by omega) (rd d) (two_0 HN2.out))).mono ?_;
        rintro z wa ⟨rfl, qa, rfl⟩;
        have BA := Lib.hid (B1.out.trans ((below_le B3.out B1.out.size).trans (below_le (B9.out.trans (drewN_below (q := qa) _)) (Nat.le_trans B1.out.size B3.out.size))));
        have RA := Lib.hid (R9.out.drewN qa);
        have ca := RA.out.at (n2 + MA) (by omega) 13 (two_2 HN2.out LA.out HE.out);
        have cb := RA.out.at (n2 + (MA + 1) + MB) (by omega) 13 (two_4 HN2.out LA.out LB.out HE.out)))
    | (go_at_call 13; (
        have f2 := f1st;
        refine (first_at g (n2 + (MA + 1)) _ (MB + 1) MB _ _ (by omega) (RA.out.part0 (n2 + (MA + 1)) (MB + 1) (by omega) _ (fun _ _ => rfl)) (by omega) (fun i hi => by rw [← two_3 HN2.out LA.out LB.out i hi]; exact XB.out i hi) (by rw [two_4 HN2.out LA.out LB.out HE.out]; omega)).mono ?_;
        rintro z wb ⟨rfl, rfl⟩))
    | (go_at_call 13; go_must (
        have f1st := Lib.hid True.intro;
        refine (first_at g n2 _ A MA _ _ (by omega) (RA.out.part0 n2 A (by omega) _ (fun _ _ => rfl)) (by omega) (fun i hi => by rw [← two_1 HN2.out LA.out i hi]; exact XA.out i hi) (by rw [two_2 HN2.out LA.out HE.out]; omega)).mono ?_;
        rintro z wb ⟨rfl, rfl⟩))
    | (go_at_call 14; (
        have f3 := r1st;
        refine (PB.out w.heap.size g (n2 + (MA + 1)) _ MB c4 x4 _ (H4.out.later (B1.out.trans ((below_le B3.out B1.out.size).trans (below_le (B9.out.trans (drewN_below (q := qa + qb) _)) (Nat.le_trans B1.out.size B3.out.size))))) HN4.out k4 LB.out ((R9.out.drewN (qa + qb)).part0 (n2 + (MA + 1)) MB (by omega) (rd mb) (two_3 HN2.out LA.out LB.out))).mono ?_;
        rintro z wd ⟨rfl, qd, rfl⟩))
    | (go_at_call 14; go_must (
        have r1st := Lib.hid True.intro;
        refine (PA.out w.heap.size g n2 _ MA c3 x3 _ (H3.out.later BA.out) HN3.out k3 LA.out (RA.out.part0 n2 MA (by omega) (rd ma) (two_1 HN2.out LA.out))).mono ?_;
        rintro z wc ⟨rfl, qb, rfl⟩))
    )
  all_goals first | (exfalso; omega) | go_ret
  exact ⟨rfl, B1.out.trans ((below_le B3.out B1.out.size).trans (below_le (B9.out.trans (drewN_below _)) (Nat.le_trans B1.out.size B3.out.size)))⟩


set_option maxRecDepth 100000 in
set_option maxHeartbeats 1000000 in
theorem law3 (T : Lib.PrintTabs) (e8 : UInt8) (e : Int) (he : e = e8.toNat) (q : Bool) (x2 x3 x4 : Option Addr) (n2 n3 n4 c2 c3 c4 : Nat) (d a b : List UInt8) (w : World) (h2 : At w.heap.size w (.slice x2 n2 c2) d) (h3 : At w.heap.size w (.slice x3 n3 c3) a) (h4 : At w.heap.size w (.slice x4 n4 c4) b)
    (hn2 : d.length = n2) (hn3 : a.length = n3) (hn4 : b.length = n4) (hT : Lib.PrintTabsAt 4 5 6 7 T w) (hU : Lib.Utf8Tabs 2 3 w) :
    Calls Tryd.prog 3 #[.int .u8 e, .bool q, .slice x2 n2 c2, .slice x3 n3 c3, .slice x4 n4 c4] w fun z w' => z = .returned (.bool true) ∧ Below w.heap.size w w' := by
  by_cases hlong : n2 + n3 + n4 ≤ 1048576 ∧ n2 ≤ 262144 ∧ n3 ≤ 262144 ∧ n4 ≤ 262144 ∧ q = true ∧ (e = 10 ∨ e = 13)
  · obtain ⟨_, k2, k3, k4, rfl, rfl | rfl⟩ := hlong
    · exact law3_10 T e8 he x2 x3 x4 n2 n3 n4 c2 c3 c4 d a b w h2 h3 h4 hn2 hn3 hn4 hT hU k2 k3 k4
    · exact law3_13 T e8 he x2 x3 x4 n2 n3 n4 c2 c3 c4 d a b w h2 h3 h4 hn2 hn3 hn4 hT hU k2 k3 k4
  · clear h2 h3 h4 hT hU hn2 hn3 hn4 he
    by_cases hs : n2 + n3 + n4 ≤ 1048576
    · by_cases k2 : n2 ≤ 262144
      · have i2 : ¬ (262144 : Int) < n2 := by omega
        by_cases k3 : n3 ≤ 262144
        · have i3 : ¬ (262144 : Int) < n3 := by omega
          by_cases k4 : n4 ≤ 262144
          · have i4 : ¬ (262144 : Int) < n4 := by omega
            cases q with
            | false =>
              clear hlong
              go_enter Tryd.func3, Tryd.ntmps3
              go_wp2_with (first | (go_at_call 5; go_must (refine (bound5_ok e false x2 x3 x4 n2 n3 n4 c2 c3 c4 w (by omega)).mono ?_; rintro z w' ⟨rfl, rfl⟩)) | (go_at_call 6; go_must (fail)))
              go_ret
              exact ⟨rfl, Below.refl _ _⟩
            | true =>
              have e1 : e ≠ 10 := fun h => hlong ⟨hs, k2, k3, k4, rfl, Or.inl h⟩
              have e2 : e ≠ 13 := fun h => hlong ⟨hs, k2, k3, k4, rfl, Or.inr h⟩
              clear hlong
              go_enter Tryd.func3, Tryd.ntmps3
              go_wp2_with (first | (go_at_call 5; go_must (refine (bound5_ok e true x2 x3 x4 n2 n3 n4 c2 c3 c4 w (by omega)).mono ?_; rintro z w' ⟨rfl, rfl⟩)) | (go_at_call 6; go_must (fail)))
              go_ret
              exact ⟨rfl, Below.refl _ _⟩
          · clear hlong
            have i4 : (262144 : Int) < n4 := by omega
            go_enter Tryd.func3, Tryd.ntmps3
            go_wp2_with (first | (go_at_call 5; go_must (refine (bound5_ok e q x2 x3 x4 n2 n3 n4 c2 c3 c4 w (by omega)).mono ?_; rintro z w' ⟨rfl, rfl⟩)) | (go_at_call 6; go_must (fail)))
            go_ret
            exact ⟨rfl, Below.refl _ _⟩
        · clear hlong
          have i3 : (262144 : Int) < n3 := by omega
          go_enter Tryd.func3, Tryd.ntmps3
          go_wp2_with (first | (go_at_call 5; go_must (refine (bound5_ok e q x2 x3 x4 n2 n3 n4 c2 c3 c4 w (by omega)).mono ?_; rintro z w' ⟨rfl, rfl⟩)) | (go_at_call 6; go_must (fail)))
          go_ret
          exact ⟨rfl, Below.refl _ _⟩
      · clear hlong
        have i2 : (262144 : Int) < n2 := by omega
        go_enter Tryd.func3, Tryd.ntmps3
        go_wp2_with (first | (go_at_call 5; go_must (refine (bound5_ok e q x2 x3 x4 n2 n3 n4 c2 c3 c4 w (by omega)).mono ?_; rintro z w' ⟨rfl, rfl⟩)) | (go_at_call 6; go_must (fail)))
        go_ret
        exact ⟨rfl, Below.refl _ _⟩
    · clear hlong
      go_enter Tryd.func3, Tryd.ntmps3
      go_wp2_with (first | (go_at_call 5; go_must (refine (bound5_no e q x2 x3 x4 n2 n3 n4 c2 c3 c4 w (by omega)).mono ?_; rintro z w' ⟨rfl, rfl⟩)) | (go_at_call 6; go_must (fail)))
      go_ret
      exact ⟨rfl, Below.refl _ _⟩

end Go.Proofs.Qxb6614942aDoor
