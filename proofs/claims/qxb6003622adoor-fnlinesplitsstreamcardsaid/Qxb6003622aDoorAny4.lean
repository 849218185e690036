/-
  THE WALKS (any 4): bytes.IndexAny at the two line ends, two to eight bytes: the loop.
-/
import Derived.Test.Qxb6003622aDoorAny3
import Derived.Lib.IndexLaws
namespace Go.Proofs.Qxb6003622aDoor
open Go.RowKit

attribute [local go_sem] Go.wp_at_zero Go.wp_at_succ

theorem Row.part {w : World} {b o : Nat} {l : List UInt8} (h : Row w b o l) (k : Nat) : Row w b (o + k) (l.drop k) := by
  intro j x hj
  rw [List.getElem?_drop] at hj
  rw [Nat.add_assoc]
  exact h (k + j) x hj

theorem high_step {l : List UInt8} {k S : Nat} (s3 : ∀ j (hj : j < (l.drop k).length), j < S → 128 ≤ (l.drop k)[j].toNat) {j : Nat} {y : UInt8} (h1 : k ≤ j) (h2 : j < k + S) (hy : l[j]? = some y) : isEnd y = false := by
  have hjl := (List.getElem?_eq_some_iff.1 hy).1
  have hyy := (List.getElem?_eq_some_iff.1 hy).2
  have := s3 (j - k) (by rw [List.length_drop]; omega) (by omega)
  rw [List.getElem_drop] at this
  have e : k + (j - k) = j := by omega
  simp only [e] at this
  rw [hyy] at this
  unfold isEnd
  have n1 : y ≠ 13 := by rintro rfl; revert this; decide
  have n2 : y ≠ 10 := by rintro rfl; revert this; decide
  simp [n1, n2]

theorem ends_20 (t : ByteArray) (W : World) (m : Int) (hm : W.cell? ⟨0, 0, none⟩ = some (.int .i64 m)) (h3 : 3 ≤ t.size) (ht : (t.size : Int) ≤ m) : (callFunc 20 #[.string ⟨#[13, 10]⟩, .string t]).run Tryd.prog W = .ok (.value (.int .i64 (-1))) W := by
  rw [call20, Lib.run_indexString ⟨#[13, 10]⟩ t W 0 m (by kernel_rfl) hm (by omega) ht (by decide)]
  have hl : t.data.toList.length = t.size := by simp
  have e : Lib.index (⟨#[13, 10]⟩ : ByteArray).data.toList t.data.toList = -1 := Lib.index_long (by rw [hl]; show 2 ≤ t.size; omega) (fun h => by rw [h] at hl; have : (2 : Nat) = t.size := hl; omega)
  rw [e]
  rfl

theorem str_ne {t : ByteArray} (h : t ≠ ⟨#[13, 10]⟩) : ((⟨#[13, 10]⟩ : ByteArray).toList == t.toList) = false := by
  rw [beq_eq_false_iff_ne]
  intro he
  apply h
  rw [ByteArray.toList_eq, ByteArray.toList_eq] at he
  cases t with
  | mk d =>
    have : (#[13, 10] : Array UInt8) = d := Array.toList_inj.1 he
    rw [← this]

set_option maxRecDepth 100000 in
set_option maxHeartbeats 2000000 in
theorem any_short (b o c n : Nat) (l : List UInt8) (m : Int) (w : World) (hT : Lib.Utf8Tabs 1 2 w) (hm : w.cell? ⟨0, 0, none⟩ = some (.int .i64 m)) (hl : l.length = n) (hn1 : 2 ≤ n) (hn : n ≤ 8) (hc : n ≤ c) (hr : Row w b o l) :
    Calls Tryd.prog 13 #[.slice (some ⟨b, o, none⟩) n c, .string ⟨#[13, 10]⟩] w fun e w' => (∃ r, e = .returned (.int .i64 r) ∧ First l r) ∧ Below w.heap.size w w' := by
  have HL := Lib.hid hl
  have HR := Lib.hid hr
  have HT := Lib.hid hT
  have HM := Lib.hid hm
  clear hl hr hT hm
  have i1 : ¬ (n : Int) = 1 := by omega
  have i2 : ¬ (8 : Int) < n := by omega
  go_enter Tryd.func13, Tryd.ntmps13
  go_wp2
  go_loopw [12] (fun i wr => ∃ k : Nat, k ≤ n ∧ i = .int .i64 k ∧ Hid (NoEnd l k ∧ Below w.heap.size w wr)) (fun i _ => n - (intOf i).toNat)
  case atStart => exact ⟨0, Nat.zero_le _, rfl, ⟨fun j x hj => absurd hj (Nat.not_lt_zero _), Below.refl _ _⟩⟩
  case round =>
    obtain ⟨k, hk, rfl, HK⟩ := hrel
    by_cases hlt : k < n
    · have hkl : k < l.length := by rw [HL.out]; exact hlt
      have hget : l[k]? = some l[k] := by simp [hkl]
      have e1 : wr.cell? ⟨b, o + k, none⟩ = some (.int .u8 l[k].toNat) := cell_kept (HR.out.get k hkl) HK.out.2
      have h14 := fun W => ends_14 l[k] W
      have hG := Lib.hid hget
      clear hget
      generalize hx : l[k] = x at e1 h14
      have HX := Lib.hid hx
      have hki : (k : Int) < n := by omega
      by_cases h128 : x.toNat < 128
      · generalize hxi : (x.toNat : Int) = xi at e1 h14
        have hxi1 : xi < 128 := by omega
        by_cases he : isEnd x = true
        · obtain ⟨r, hr0, hr1⟩ : ∃ r : Int, 0 ≤ r ∧ ∀ W, (callFunc 14 #[.string ⟨#[13, 10]⟩, .int .u8 xi]).run Tryd.prog W = .ok (.value (.int .i64 r)) W := ⟨_, by
            unfold isEnd at he
            have he' : x = 13 ∨ x = 10 := by simpa using he
            rcases he' with h | h
            · simp [h]
            · simp [h], h14⟩
          clear h14
          go_wp2
          go_ret
          exact ⟨⟨_, rfl, Or.inr ⟨k, x, rfl, by rw [hG.out, HX.out], he, HK.out.1⟩⟩, HK.out.2⟩
        · obtain ⟨r, hr0, hr1⟩ : ∃ r : Int, r < 0 ∧ ∀ W, (callFunc 14 #[.string ⟨#[13, 10]⟩, .int .u8 xi]).run Tryd.prog W = .ok (.value (.int .i64 r)) W := ⟨_, by
            unfold isEnd at he
            have he' : ¬ (x = 13 ∨ x = 10) := by simpa using he
            rw [if_neg (fun h => he' (Or.inl h)), if_neg (fun h => he' (Or.inr h))]
            omega, h14⟩
          clear h14
          go_wp2
          go_roundw
          case rel => exact ⟨k + 1, by omega, by go_num, ⟨HK.out.1.step (fun j y h1 h2 hy => by
            have : j = k := by omega
            subst this
            rw [hG.out, HX.out] at hy
            cases hy
            simpa using he), HK.out.2⟩⟩
          case measure => simp [intOf]; omega
      · have hbx : 128 ≤ x.toNat := by omega
        have hd := dec_facts (l.drop k) (by rw [List.length_drop]; omega) (by rw [List.getElem_drop]; simp only [Nat.add_zero]; rw [HX.out]; exact hbx)
        have hdec := decode19 b (o + k) (c - k) (n - k) (l.drop k) wr (Utf8Tabs_below HT.out HK.out.2) (by rw [List.length_drop, HL.out]) ((HR.out.later HK.out.2).part k)
        generalize (Lib.decodeGo ⟨(l.drop k).toArray⟩).1 = R at hd hdec
        generalize (Lib.decodeGo ⟨(l.drop k).toArray⟩).2 = S at hd hdec
        obtain ⟨s1, s2, s3, hor⟩ := hd
        rw [List.length_drop, HL.out] at s2
        have HD := Lib.hid hdec
        have HS := Lib.hid (show NoEnd l (k + S) from HK.out.1.step (fun j y h1 h2 hy => high_step s3 h1 h2 hy))
        have hx1 : ¬ ((x.toNat : Int) < 128) := by omega
        have hx2 : (x.toNat : Int) ≤ 255 := by have := UInt8.toNat_lt x; omega
        generalize (x.toNat : Int) = xi at e1 hx1 hx2
        have hci : ¬ c = k := by omega
        clear hdec s3 h14
        by_cases hR : R = 65533
        · go_wp2_with (go_at_call 19; go_must (
            refine (HD.out).mono ?_;
            rintro e w1 ⟨rfl, hb1⟩;
            have n0 := next0 w1;
            have n1 := next1 w1;
            have n2 := next2 w1;
            have B1 := Lib.hid hb1;
            clear hb1))
          go_rounds 3
          go_roundw
          case rel => exact ⟨k + S, by omega, by go_num, ⟨HS.out, HK.out.2.trans (below_le (B1.out.trans (below_le (below_new w1 _) B1.out.size)) HK.out.2.size)⟩⟩
          case measure => simp [intOf]; omega
        · obtain ⟨hval, hR128, hsz, hS2⟩ : Utf8.valid (R : Int) = true ∧ 128 ≤ R ∧ (Utf8.encode (R : Int)).size = S ∧ 2 ≤ S := by
            rcases hor with h | h
            · exact absurd h hR
            · exact h
          have hRi : ¬ (R : Int) = 65533 := by omega
          have hne := encode_ne R hval (by omega)
          by_cases hS : S = 2
          · have heq := str_ne hne
            subst hS
            clear hne hsz hval hor hR hR128
            have HQ := Lib.hid heq
            clear heq
            generalize hRZ : (R : Int) = Z at HD hRi HQ
            clear hRZ
            go_wp2_with (go_at_call 19; go_must (
              refine (HD.out).mono ?_;
              rintro e w1 ⟨rfl, hb1⟩;
              have B1 := Lib.hid hb1;
              clear hb1))
            · exfalso
              rename_i hq
              have := HQ.out
              simp_all
            · go_roundw
              case rel => exact ⟨k + 2, by omega, by go_num, ⟨HS.out, HK.out.2.trans (below_le B1.out HK.out.2.size)⟩⟩
              case measure => simp [intOf]; omega
          · have h20 : Hid (∀ W : World, W.cell? ⟨0, 0, none⟩ = some (.int .i64 m) → (S : Int) ≤ m → (callFunc 20 #[.string ⟨#[13, 10]⟩, .string (Utf8.encode (R : Int))]).run Tryd.prog W = .ok (.value (.int .i64 (-1))) W) := Lib.hid (fun W h1 h2 => ends_20 _ W m h1 (by omega) (by rw [hsz]; exact h2))
            have hz13 : ¬ (R : Int) = 13 := by omega
            have hz10 : ¬ (R : Int) = 10 := by omega
            have hS3 : ¬ (2 : Int) = S := by omega
            clear hne hsz hval hor hR hR128
            generalize hRZ : (R : Int) = Z at HD hRi h20 hz13 hz10
            clear hRZ
            by_cases hSm : (S : Int) ≤ m
            · go_wp2_with (go_at_call 19; go_must (
                refine (HD.out).mono ?_;
                rintro e w1 ⟨rfl, hb1⟩;
                have hm1 := cell_kept (cell_kept HM.out HK.out.2) hb1;
                have h20' := h20.out w1 hm1 hSm;
                have B1 := Lib.hid hb1;
                clear hb1))
              go_roundw
              case rel => exact ⟨k + S, by omega, by go_num, ⟨HS.out, HK.out.2.trans (below_le B1.out HK.out.2.size)⟩⟩
              case measure => simp [intOf]; omega
            · go_wp2_with (go_at_call 19; go_must (
                refine (HD.out).mono ?_;
                rintro e w1 ⟨rfl, hb1⟩;
                have hm1 := cell_kept (cell_kept HM.out HK.out.2) hb1;
                have n0 := next0 w1;
                have n1 := next1 w1;
                have n2 := next2 w1;
                have B1 := Lib.hid hb1;
                clear hb1))
              go_rounds 3
              go_roundw
              case rel => exact ⟨k + S, by omega, by go_num, ⟨HS.out, HK.out.2.trans (below_le (B1.out.trans (below_le (below_new w1 _) B1.out.size)) HK.out.2.size)⟩⟩
              case measure => simp [intOf]; omega
    · have hkn : k = n := by omega
      go_wp2
      go_ret
      exact ⟨⟨_, rfl, Or.inl ⟨rfl, by rw [HL.out, ← hkn]; exact HK.out.1⟩⟩, HK.out.2⟩

end Go.Proofs.Qxb6003622aDoor
