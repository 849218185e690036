/-
  THE WALKS (law): the law at a slice of bytes.
-/
import Derived.Test.Qxb6003622aDoorLawN
namespace Go.Proofs.Qxb6003622aDoor
open Go.RowKit

attribute [local go_sem] Go.wp_at_zero Go.wp_at_succ

theorem u8_ne {x y : UInt8} (h : x ≠ y) : ¬ (x.toNat : Int) = (y.toNat : Int) := fun h' => h (UInt8.toNat_inj.1 (by omega))

set_option maxRecDepth 100000 in
set_option maxHeartbeats 4000000 in
theorem law_row (b o c n : Nat) (l : List UInt8) (m : Int) (w : World) (hT : Lib.Utf8Tabs 1 2 w) (hm : w.cell? ⟨0, 0, none⟩ = some (.int .i64 m)) (hl : l.length = n) (hn : n ≤ 1048576) (hr : Row w b o l) :
    Calls Tryd.prog 4 #[.slice (some ⟨b, o, none⟩) n c] w fun e w' => e = .returned (.bool true) ∧ Below w.heap.size w w' := by
  have HB := Lib.hid (bound_yes (some ⟨b, o, none⟩) n c w hn)
  have HC := Lib.hid (clone_any b o c n l w hl hn hr)
  have HT := Lib.hid hT
  have HM := Lib.hid hm
  have HL := Lib.hid hl
  clear hT hm hl hr
  have hni : ¬ (1048576 : Int) < n := by omega
  go_enter Tryd.func4, Tryd.ntmps4
  go_wp2_with (first
    | (go_at_call 10; go_must (
        refine (HB.out).mono ?_;
        rintro e w' ⟨rfl, rfl⟩))
    | (go_at_call 6;
        refine (clone_any w.heap.size 0 n n l w1 HL.out hn R1.out).mono ?_;
        rintro e w2 ⟨rfl, hL2⟩;
        have L2 := Lib.hid hL2;
        clear hL2)
    | (go_at_call 6; go_must (
        refine (HC.out).mono ?_;
        rintro e w1 ⟨rfl, hL1⟩;
        have L1 := Lib.hid hL1;
        have R1 := Lib.hid (hL1.row HL.out);
        clear hL1)))
  have Q1 := Lib.hid (R1.out.later L2.out.below)
  have Q2 := Lib.hid (L2.out.row HL.out)
  have B2 := Lib.hid (L1.out.below.trans (below_le L2.out.below L1.out.below.size))
  clear L1 L2 R1 HB HC
  have HM2 := Lib.hid (cell_kept HM.out B2.out)
  have HT2 := Lib.hid (Utf8Tabs_below HT.out B2.out)
  clear HM HT
  generalize w1.heap.size = D at Q2 ⊢
  generalize w.heap.size = A at Q1 ⊢
  go_loop [7, 5, 6] (fun s7 s5 s6 => ∃ k a e : Nat, k ≤ n ∧ a ≤ k ∧ e ≤ k ∧ s7 = .int .i64 k ∧ s5 = .int .i64 a ∧ s6 = .int .i64 e ∧ Hid (scan l k a e = scan l 0 0 0)) (fun s7 _ _ => n - (intOf s7).toNat)
  case atStart => exact ⟨0, 0, 0, Nat.zero_le _, Nat.le_refl _, Nat.le_refl _, rfl, rfl, rfl, Lib.hid rfl⟩
  case round =>
    obtain ⟨k, a, e, hk, ha, he, rfl, rfl, rfl, HS⟩ := hrel
    by_cases hlt : k < n
    · have hki : (k : Int) < n := by omega
      have hkl : k < l.length := by rw [HL.out]; exact hlt
      have e1 : w2.cell? ⟨A, k, none⟩ = some (.int .u8 l[k].toNat) := by have := Q1.out.get k hkl; rwa [Nat.zero_add] at this
      have hG := Lib.hid (show l[k]? = some l[k] by simp [hkl])
      generalize l[k] = x at e1 hG
      by_cases h10 : x = 10
      · subst h10
        go_wp2
        go_round
        case rel => exact ⟨k + 1, a + 1, k + 1, by omega, by omega, by omega, by go_num, by go_num, by go_num, Lib.hid ((scan_lf hG.out).symm.trans HS.out)⟩
        case measure => simp [intOf]; omega
      · by_cases h13 : x = 13
        · subst h13
          clear h10
          cases hz : l[k + 1]? with
          | none =>
            have hk1 : ¬ (k : Int) + 1 < n := by have := List.getElem?_eq_none_iff.1 hz; have := HL.out; omega
            have HZ := Lib.hid hz
            clear hz
            go_wp2
            go_round
            case rel => exact ⟨k + 1, a + 1, k + 1, by omega, by omega, by omega, by go_num, by go_num, by go_num, Lib.hid ((scan_cr hG.out (by rw [HZ.out]; simp)).symm.trans HS.out)⟩
            case measure => simp [intOf]; omega
          | some z =>
            have hk1 : (k : Int) + 1 < n := by have := (List.getElem?_eq_some_iff.1 hz).1; have := HL.out; omega
            have e2 : w2.cell? ⟨A, k + 1, none⟩ = some (.int .u8 z.toNat) := by have := Q1.out (k + 1) z hz; rwa [Nat.zero_add] at this
            have HZ := Lib.hid hz
            clear hz
            by_cases hz10 : z = 10
            · subst hz10
              go_wp2
              go_round
              case rel => exact ⟨k + 2, a + 1, k + 2, by omega, by omega, by omega, by go_num, by go_num, by go_num, Lib.hid ((scan_crlf hG.out HZ.out).symm.trans HS.out)⟩
              case measure => simp [intOf]; omega
            · have hzi : ¬ (z.toNat : Int) = 10 := u8_ne hz10
              go_wp2
              go_round
              case rel => exact ⟨k + 1, a + 1, k + 1, by omega, by omega, by omega, by go_num, by go_num, by go_num, Lib.hid ((scan_cr hG.out (by rw [HZ.out]; simpa using hz10)).symm.trans HS.out)⟩
              case measure => simp [intOf]; omega
        · have i10 : ¬ (x.toNat : Int) = 10 := u8_ne h10
          have i13 : ¬ (x.toNat : Int) = 13 := u8_ne h13
          go_wp2
          go_round
          case rel => exact ⟨k + 1, a, e, by omega, by omega, by omega, by go_num, by go_num, by go_num, Lib.hid ((scan_skip hG.out (by simp [isEnd, h10, h13])).symm.trans HS.out)⟩
          case measure => simp [intOf]; omega
    · have hkn : n = k := by omega
      subst hkn
      have HW := Lib.hid (HS.out.symm.trans (scan_end (Nat.le_of_eq HL.out)))
      clear HS
      go_wp2
      go_loopw [8, 9, 10, 11] (fun s8 s9 s10 s11 wr => ∃ p g s : Nat, p ≤ n ∧ g ≤ p ∧ s ≤ p ∧ s8 = .int .i64 p ∧ s9 = .int .i64 0 ∧ s10 = .int .i64 g ∧ s11 = .int .i64 s ∧ Hid (scan l p g p = (a, e) ∧ Below w2.heap.size w2 wr)) (fun _ _ _ s11 _ => n + 1 - (intOf s11).toNat)
      case atStart => exact ⟨0, 0, 0, Nat.zero_le _, Nat.le_refl _, Nat.le_refl _, rfl, rfl, rfl, rfl, ⟨HW.out, Below.refl _ _⟩⟩
      case round =>
        obtain ⟨p, g, s, hp, hg, hs, rfl, rfl, rfl, rfl, HK⟩ := hrel
        have hsi : (s : Int) ≤ n := by omega
        have V1 := Lib.hid (Q1.out.later HK.out.2)
        have V2 := Lib.hid (Q2.out.later HK.out.2)
        have VM := cell_kept HM2.out HK.out.2
        have VT := Utf8Tabs_below HT2.out HK.out.2
        obtain ⟨r, hF⟩ := first_ex (l.drop p)
        have hFc := hF
        rcases hFc with ⟨rfl, hno⟩ | ⟨k, y, rfl, hky, hye, hno⟩
        · have HZ := Lib.hid (zz_not D n p l m wr VT VM HL.out hn hp V2.out hF)
          have hfin : (g, p) = (a, e) := by
            rw [← HK.out.1, scan_pass (n - p) (by rw [HL.out]; omega) (by rw [← HL.out, ← List.length_drop]; exact hno), scan_end (by rw [HL.out]; omega)]
          obtain ⟨rfl, rfl⟩ : g = a ∧ p = e := by simpa using hfin
          have hnil : ∀ W, (binOp .eql 22 (.slice none 0 0) (.slice none 0 0)).run Tryd.prog W = .ok (.bool true) W := fun W => Lib.run_eql_slice_nil_nil W _ _ Tryd.underlying22
          have hsub : (n : Int) - (p : Int) = ((n - p : Nat) : Int) := by omega
          clear VM VT hF hno hfin
          go_wp2_with (go_at_call 7; go_must (
            refine (HZ.out).mono ?_;
            rintro ee w3 ⟨rfl, hb3⟩;
            have B3 := Lib.hid hb3;
            clear hb3))
          go_ret
          exact ⟨by simp, B2.out.trans (below_le (HK.out.2.trans (below_le B3.out HK.out.2.size)) B2.out.size)⟩
        · have HZ := Lib.hid (zz_found D n p k l m wr VT VM HL.out hn V2.out hF)
          rw [List.getElem?_drop] at hky
          have hpk : p + k < n := by have := (List.getElem?_eq_some_iff.1 hky).1; have := HL.out; omega
          have hpki : ¬ (n : Int) ≤ (p : Int) + k := by omega
          have HY := Lib.hid hky
          have HN := Lib.hid hno
          clear VM VT hF hno hky
          generalize hel : el l (p + k) = E at HZ
          have HE := Lib.hid hel
          clear hel
          go_wp2_with (go_at_call 7; go_must (
            refine (HZ.out).mono ?_;
            rintro ee w3 ⟨rfl, hb3⟩;
            have B3 := Lib.hid (HK.out.2.trans (below_le hb3 HK.out.2.size));
            clear hb3))
          clear HZ
          go_loopw [18] (fun s18 wq => ∃ j : Nat, j ≤ k ∧ s18 = .int .i64 j ∧ Hid (Below w2.heap.size w2 wq)) (fun s18 _ => k - (intOf s18).toNat)
          case atStart => exact ⟨0, Nat.zero_le _, rfl, B3⟩
          case round =>
            obtain ⟨j, hj, rfl, BQ⟩ := hrel
            by_cases hjl : j < k
            · have hji : (j : Int) < k := by omega
              have hpji : (p : Int) + j < n := by omega
              have hpj : p + j < l.length := by rw [HL.out]; omega
              have e1 : wr.cell? ⟨D, p + j, none⟩ = some (.int .u8 l[p + j].toNat) := by have := (Q2.out.later BQ.out).get (p + j) hpj; rwa [Nat.zero_add] at this
              have e2 : wr.cell? ⟨A, p + j, none⟩ = some (.int .u8 l[p + j].toNat) := by have := (Q1.out.later BQ.out).get (p + j) hpj; rwa [Nat.zero_add] at this
              have hx : isEnd l[p + j] = false := HN.out j _ hjl (by rw [List.getElem?_drop]; simp [hpj])
              generalize l[p + j] = x at e1 e2 hx
              have HI := Lib.hid (show ∀ W : World, Calls Tryd.prog 11 #[.int .u8 x.toNat] W fun e w' => e = .returned (.bool false) ∧ w' = W from fun W => (isEnd_any x W).mono fun _ _ h => ⟨by rw [← hx]; exact h.1, h.2.symm⟩)
              obtain ⟨q, hq⟩ : ∃ q : Nat, q = p + j := ⟨_, rfl⟩
              have hqi : (p : Int) + (j : Int) = (q : Int) := by omega
              have hqn : (q : Int) < n := by omega
              rw [← hq] at e2
              clear hpji hq
              go_wp2
              go_quiet (first | (go_at_call 11; refine Calls.quiet_of_same (HI.out _)))
              go_wp2
              go_roundw
              case rel => exact ⟨j + 1, by omega, by go_num, BQ.out.trans (drewN_below _)⟩
              case measure => simp [intOf]; omega
            · have hjk : k = j := by omega
              subst hjk
              have HP := Lib.hid ((scan_pass (w := g) (e := p) k (by rw [HL.out]; omega) HN.out).symm.trans HK.out.1)
              have e1 : wr.cell? ⟨A, p + k, none⟩ = some (.int .u8 y.toNat) := by have := (Q1.out.later BQ.out) (p + k) y HY.out; rwa [Nat.zero_add] at this
              have HI := Lib.hid (isEnd_any y)
              rw [hye] at HI
              have hy' : y = 13 ∨ y = 10 := by simpa [isEnd] using hye
              have hpki2 : (p : Int) + k < n := by omega
              rcases hy' with rfl | rfl
              · cases hz : l[p + k + 1]? with
                | none =>
                  have hk1 : ¬ (p : Int) + k + 1 < n := by have := List.getElem?_eq_none_iff.1 hz; have := HL.out; omega
                  have HZ := Lib.hid hz
                  clear hz
                  obtain rfl : 1 = E := by rw [← HE.out]; unfold el; rw [if_neg (by rw [HZ.out]; simp)]
                  go_wp2_with (go_at_call 11; go_must (
                    refine (HI.out _).mono ?_;
                    rintro ee w4 ⟨rfl, rfl⟩))
                  go_roundw
                  case rel => exact ⟨p + (k + 1), g + 1, s + 1, by omega, by omega, by omega, by go_num, rfl, by go_num, by go_num, ⟨(scan_cr HY.out (by rw [HZ.out]; simp)).symm.trans HP.out, BQ.out⟩⟩
                  case measure => simp [intOf]; omega
                | some z =>
                  have hk1 : (p : Int) + k + 1 < n := by have := (List.getElem?_eq_some_iff.1 hz).1; have := HL.out; omega
                  have e2 : wr.cell? ⟨A, p + k + 1, none⟩ = some (.int .u8 z.toNat) := by have := (Q1.out.later BQ.out) (p + k + 1) z hz; rwa [Nat.zero_add] at this
                  have HZ := Lib.hid hz
                  clear hz
                  by_cases hz10 : z = 10
                  · subst hz10
                    obtain rfl : 2 = E := by rw [← HE.out]; unfold el; rw [if_pos ⟨HY.out, HZ.out⟩]
                    go_wp2_with (go_at_call 11; go_must (
                      refine (HI.out _).mono ?_;
                      rintro ee w4 ⟨rfl, rfl⟩))
                    go_roundw
                    case rel => exact ⟨p + (k + 2), g + 1, s + 1, by omega, by omega, by omega, by go_num, rfl, by go_num, by go_num, ⟨(scan_crlf HY.out HZ.out).symm.trans HP.out, BQ.out⟩⟩
                    case measure => simp [intOf]; omega
                  · have hzi : ¬ (z.toNat : Int) = 10 := u8_ne hz10
                    obtain rfl : 1 = E := by rw [← HE.out]; unfold el; rw [if_neg (by rw [HZ.out]; simp [hz10])]
                    go_wp2_with (go_at_call 11; go_must (
                      refine (HI.out _).mono ?_;
                      rintro ee w4 ⟨rfl, rfl⟩))
                    go_roundw
                    case rel => exact ⟨p + (k + 1), g + 1, s + 1, by omega, by omega, by omega, by go_num, rfl, by go_num, by go_num, ⟨(scan_cr HY.out (by rw [HZ.out]; simpa using hz10)).symm.trans HP.out, BQ.out⟩⟩
                    case measure => simp [intOf]; omega
              · skip
                obtain rfl : 1 = E := by rw [← HE.out]; unfold el; rw [if_neg (by rw [HY.out]; simp)]
                go_wp2_with (go_at_call 11; go_must (
                  refine (HI.out _).mono ?_;
                  rintro ee w4 ⟨rfl, rfl⟩))
                go_roundw
                case rel => exact ⟨p + (k + 1), g + 1, s + 1, by omega, by omega, by omega, by go_num, rfl, by go_num, by go_num, ⟨(scan_lf HY.out).symm.trans HP.out, BQ.out⟩⟩
                case measure => simp [intOf]; omega

end Go.Proofs.Qxb6003622aDoor
