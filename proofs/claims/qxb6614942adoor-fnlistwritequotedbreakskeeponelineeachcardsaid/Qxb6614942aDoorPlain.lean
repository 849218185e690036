/-
  PLAIN LAWS: what strconv.Quote's text holds. No Go.
-/
import Derived.Lib.QuoteLoop
import Derived.Lib.IndexLaws
namespace Go.Proofs.Qxb6614942aDoor
open Go.Lib

def Good (x : Int) : Prop := 0 ≤ x ∧ x < 256 ∧ x ≠ 10 ∧ x ≠ 13

theorem hexDigit_good (x : Nat) (h : x < 16) : Good (hexDigit x) := by
  unfold Good hexDigit
  split <;> omega

theorem hexDigits_good (r : Nat) : ∀ n, ∀ x ∈ hexDigits r n, Good x
  | 0, x, hx => by cases hx
  | n + 1, x, hx => by
    unfold hexDigits at hx
    rcases List.mem_cons.1 hx with rfl | hx
    · exact hexDigit_good _ (Nat.mod_lt _ (by omega))
    · exact hexDigits_good r n x hx

theorem hexDigits_length (r : Nat) : ∀ n, (hexDigits r n).length = n
  | 0 => rfl
  | n + 1 => by simp [hexDigits, hexDigits_length r n]

theorem latin_ge (r : Int) (h : isPrintLatin r = true) : 32 ≤ r := by
  unfold isPrintLatin at h
  simp at h
  omega

theorem print_ge (T : PrintTabs) (r : Int) (h : isPrintR T r = true) : 32 ≤ r := by
  by_cases h1 : r ≤ 255
  · unfold isPrintR at h
    rw [if_pos h1] at h
    exact latin_ge r h
  · omega

theorem encode_good (r : Int) (h0 : 32 ≤ r) (h1 : r ≤ 1114111) : ∀ x ∈ encodeRuneZ r, Good x := by
  intro x hx
  unfold encodeRuneZ at hx
  unfold Good
  repeat' split at hx
  all_goals simp only [List.mem_cons, List.not_mem_nil, or_false] at hx
  all_goals omega

def wid (r : Int) : Nat := if r ≤ 127 then 1 else if r ≤ 2047 then 2 else if r ≤ 65535 then 3 else 4

theorem encode_wid (r : Int) (h : validRune r = true) : (encodeRuneZ r).length = wid r := by
  unfold validRune at h
  simp only [decide_eq_true_eq] at h
  unfold encodeRuneZ wid
  repeat' split
  all_goals first | rfl | (exfalso; omega)

theorem good2 (a b : Int) (ha : Good a) (hb : Good b) : ∀ x ∈ [a, b], Good x := by
  intro x hx
  simp only [List.mem_cons, List.not_mem_nil, or_false] at hx
  rcases hx with rfl | rfl
  · exact ha
  · exact hb

theorem esc_facts (T : PrintTabs) (r : Int) (h : validRune r = true) : (∀ x ∈ escRune T r, Good x) ∧ wid r ≤ (escRune T r).length ∧ (r = 10 ∨ r = 13 → 2 ≤ (escRune T r).length) := by
  have hv := h
  unfold validRune at hv
  simp only [decide_eq_true_eq] at hv
  have hw : wid r ≤ 4 := by unfold wid; repeat' split
                            all_goals omega
  have hw1 : r ≤ 127 → wid r = 1 := by intro h; unfold wid; rw [if_pos h]
  have hw3 : r ≤ 65535 → wid r ≤ 3 := by intro h; unfold wid; repeat' split
                                         all_goals omega
  have g92 : Good 92 := by unfold Good; omega
  unfold escRune
  by_cases c0 : r = 34 ∨ r = 92
  · rw [if_pos c0]
    refine ⟨good2 _ _ g92 (by unfold Good; omega), ?_, fun _ => by simp⟩
    rw [hw1 (by omega)]; simp
  rw [if_neg c0]
  by_cases c1 : isPrintR T r = true
  · rw [if_pos c1]
    have h32 := print_ge T r c1
    exact ⟨encode_good r h32 (by omega), by rw [encode_wid r h]; exact Nat.le_refl _, fun h => by omega⟩
  rw [if_neg c1]
  by_cases c2 : r = 7
  · rw [if_pos c2]; exact ⟨good2 _ _ g92 (by unfold Good; omega), by rw [hw1 (by omega)]; simp, fun _ => by simp⟩
  rw [if_neg c2]
  by_cases c3 : r = 8
  · rw [if_pos c3]; exact ⟨good2 _ _ g92 (by unfold Good; omega), by rw [hw1 (by omega)]; simp, fun _ => by simp⟩
  rw [if_neg c3]
  by_cases c4 : r = 12
  · rw [if_pos c4]; exact ⟨good2 _ _ g92 (by unfold Good; omega), by rw [hw1 (by omega)]; simp, fun _ => by simp⟩
  rw [if_neg c4]
  by_cases c5 : r = 10
  · rw [if_pos c5]; exact ⟨good2 _ _ g92 (by unfold Good; omega), by rw [hw1 (by omega)]; simp, fun _ => by simp⟩
  rw [if_neg c5]
  by_cases c6 : r = 13
  · rw [if_pos c6]; exact ⟨good2 _ _ g92 (by unfold Good; omega), by rw [hw1 (by omega)]; simp, fun _ => by simp⟩
  rw [if_neg c6]
  by_cases c7 : r = 9
  · rw [if_pos c7]; exact ⟨good2 _ _ g92 (by unfold Good; omega), by rw [hw1 (by omega)]; simp, fun _ => by simp⟩
  rw [if_neg c7]
  by_cases c8 : r = 11
  · rw [if_pos c8]; exact ⟨good2 _ _ g92 (by unfold Good; omega), by rw [hw1 (by omega)]; simp, fun _ => by simp⟩
  rw [if_neg c8]
  by_cases c9 : r < 32 ∨ r = 127
  · rw [if_pos c9]
    refine ⟨fun x hx => ?_, by rw [hw1 (by omega)]; simp, fun _ => by simp⟩
    simp only [List.mem_cons, List.not_mem_nil, or_false] at hx
    rcases hx with rfl | rfl | rfl | rfl
    · exact g92
    · unfold Good; omega
    · exact hexDigit_good _ (by omega)
    · exact hexDigit_good _ (by omega)
  rw [if_neg c9]
  have hx4 : ∀ n, ∀ x ∈ (92 : Int) :: 117 :: hexDigits n 4, Good x := by
    intro n x hx
    rcases List.mem_cons.1 hx with rfl | hx
    · exact g92
    rcases List.mem_cons.1 hx with rfl | hx
    · unfold Good; omega
    · exact hexDigits_good _ _ x hx
  by_cases c10 : validRune r = false
  · rw [h] at c10; cases c10
  rw [if_neg c10]
  by_cases c11 : r < 65536
  · rw [if_pos c11]
    exact ⟨hx4 _, by simp only [List.length_cons, hexDigits_length]; omega, fun h => by omega⟩
  rw [if_neg c11]
  refine ⟨fun x hx => ?_, by simp only [List.length_cons, hexDigits_length]; omega, fun h => by omega⟩
  rcases List.mem_cons.1 hx with rfl | hx
  · exact g92
  rcases List.mem_cons.1 hx with rfl | hx
  · unfold Good; omega
  · exact hexDigits_good _ _ x hx

/-- What the decoder tells: one byte; or the width is the rune's and no byte of it is under 128. -/
theorem decodeN_facts (n b0 b1 b2 b3 : Nat) (h0 : b0 < 256) :
    ((decodeN n b0 b1 b2 b3).2 = 1 ∧ (((decodeN n b0 b1 b2 b3).1 = b0 ∧ b0 ≤ 127) ∨ ((decodeN n b0 b1 b2 b3).1 = 65533 ∧ 128 ≤ b0))) ∨
    ((decodeN n b0 b1 b2 b3).2 = 2 ∧ 128 ≤ (decodeN n b0 b1 b2 b3).1 ∧ (decodeN n b0 b1 b2 b3).1 ≤ 2047 ∧ 128 ≤ b0 ∧ 128 ≤ b1) ∨
    ((decodeN n b0 b1 b2 b3).2 = 3 ∧ 2048 ≤ (decodeN n b0 b1 b2 b3).1 ∧ (decodeN n b0 b1 b2 b3).1 ≤ 65535 ∧ 128 ≤ b0 ∧ 128 ≤ b1 ∧ 128 ≤ b2) ∨
    ((decodeN n b0 b1 b2 b3).2 = 4 ∧ 65536 ≤ (decodeN n b0 b1 b2 b3).1 ∧ 128 ≤ b0 ∧ 128 ≤ b1 ∧ 128 ≤ b2 ∧ 128 ≤ b3) := by
  generalize hd : decodeN n b0 b1 b2 b3 = p
  obtain ⟨r, wd⟩ := p
  unfold decodeN at hd
  repeat' split at hd
  all_goals
    obtain ⟨h1, h2⟩ := Prod.mk.inj hd
    subst h1
    subst h2
    clear hd
    dsimp only
    omega

theorem get_eq (s : ByteArray) (j : Nat) (h : j < s.size) : s.get! j = s[j]'h := by
  cases s with
  | mk d => exact getElem!_pos d j h

theorem step_facts (T : PrintTabs) (s : ByteArray) (h0 : 0 < s.size) :
    (∀ x ∈ quoteStep T s, Good x) ∧ (Utf8.decode s 0).2 ≤ (quoteStep T s).length ∧ 1 ≤ (Utf8.decode s 0).2 ∧ (Utf8.decode s 0).2 ≤ s.size ∧
      (∀ j, j < (Utf8.decode s 0).2 → (s.get! j).toNat = 10 ∨ (s.get! j).toNat = 13 → (Utf8.decode s 0).2 + 1 ≤ (quoteStep T s).length) := by
  have hd := decodeN_facts (s.size - 0) (s.get! 0).toNat (s.get! (0 + 1)).toNat (s.get! (0 + 2)).toNat (s.get! (0 + 3)).toNat (UInt8.toNat_lt _)
  rw [← decode_at] at hd
  have hv := rune_valid s
  have hwl := width_le s h0
  obtain ⟨e1, e2, e3⟩ := esc_facts T _ hv
  by_cases hbad : (Utf8.decode s 0).2 = 1 ∧ (Utf8.decode s 0).1 = 65533
  · have hq : quoteStep T s = [92, 120, hexDigit ((s.get! 0).toNat / 16), hexDigit ((s.get! 0).toNat % 16)] := by unfold quoteStep; rw [if_pos hbad]
    have hb := UInt8.toNat_lt (s.get! 0)
    rw [hq, hbad.1]
    refine ⟨fun x hx => ?_, by simp, Nat.le_refl _, h0, fun _ _ _ => by simp⟩
    simp only [List.mem_cons, List.not_mem_nil, or_false] at hx
    rcases hx with rfl | rfl | rfl | rfl
    · unfold Good; omega
    · unfold Good; omega
    · exact hexDigit_good _ (by omega)
    · exact hexDigit_good _ (by omega)
  · rw [quoteStep_good T s hbad]
    generalize (Utf8.decode s 0).1 = r at *
    generalize (Utf8.decode s 0).2 = wd at *
    generalize escRune T (r : Int) = L at *
    have hwid : wd = wid r := by
      unfold wid
      repeat' split
      all_goals omega
    refine ⟨e1, by omega, by omega, hwl, fun j hj hb => ?_⟩
    rcases hd with ⟨h1, h2⟩ | ⟨h1, h2⟩ | ⟨h1, h2⟩ | ⟨h1, h2⟩
    · have : j = 0 := by omega
      subst this
      have := e3 (by omega)
      omega
    · have : j = 0 ∨ j = 0 + 1 := by omega
      rcases this with rfl | rfl <;> omega
    · have : j = 0 ∨ j = 0 + 1 ∨ j = 0 + 2 := by omega
      rcases this with rfl | rfl | rfl <;> omega
    · have : j = 0 ∨ j = 0 + 1 ∨ j = 0 + 2 ∨ j = 0 + 3 := by omega
      rcases this with rfl | rfl | rfl | rfl <;> omega

theorem get_rest (s : ByteArray) (k j : Nat) (h : k + j < s.size) : (s.extract k s.size).get! j = s.get! (k + j) := by
  have e1 := get_eq (s.extract k s.size) j (by rw [size_rest]; omega)
  have e2 := get_eq s (k + j) h
  rw [e1, e2]
  simp [ByteArray.getElem_extract]

theorem from_facts (T : PrintTabs) : ∀ (f : Nat) (s : ByteArray), s.size ≤ f → (∀ x ∈ quoteFrom T f s, Good x) ∧ s.size ≤ (quoteFrom T f s).length ∧ (∀ j, j < s.size → (s.get! j).toNat = 10 ∨ (s.get! j).toNat = 13 → s.size + 1 ≤ (quoteFrom T f s).length)
  | 0, s, h => by
    refine ⟨by simp [quoteFrom], by omega, fun j hj => by omega⟩
  | f + 1, s, h => by
    by_cases h0 : 0 < s.size
    · rw [quoteFrom_step T (f + 1) s h0 h]
      obtain ⟨a1, a2, a3, a4, a5⟩ := step_facts T s h0
      have hr := size_rest s (Utf8.decode s 0).2
      obtain ⟨b1, b2, b3⟩ := from_facts T f (s.extract (Utf8.decode s 0).2 s.size) (by omega)
      simp only [Nat.add_sub_cancel, List.length_append]
      generalize (Utf8.decode s 0).2 = wd at *
      refine ⟨fun x hx => ?_, by omega, fun j hj hb => ?_⟩
      · rcases List.mem_append.1 hx with hx | hx
        · exact a1 x hx
        · exact b1 x hx
      · by_cases hjw : j < wd
        · have := a5 j hjw hb
          omega
        · have hg := get_rest s wd (j - wd) (by omega)
          have e : wd + (j - wd) = j := by omega
          rw [e] at hg
          have := b3 (j - wd) (by omega) (by rw [hg]; exact hb)
          omega
    · rw [quoteFrom_end T (f + 1) s h0]
      exact ⟨by simp, by rw [List.length_nil]; omega, fun j hj => by omega⟩

theorem quote_good (T : PrintTabs) (s : ByteArray) : ∀ x ∈ quoteZ T s, Good x := by
  intro x hx
  unfold quoteZ at hx
  rcases List.mem_cons.1 hx with rfl | hx
  · unfold Good; omega
  rcases List.mem_append.1 hx with hx | hx
  · exact (from_facts T s.size s (Nat.le_refl _)).1 x hx
  · rw [List.mem_singleton.1 hx]; unfold Good; omega

theorem quote_len (T : PrintTabs) (s : ByteArray) : s.size + 2 ≤ (quoteZ T s).length := by
  have := (from_facts T s.size s (Nat.le_refl _)).2.1
  unfold quoteZ
  simp only [List.length_cons, List.length_append, List.length_nil]
  omega

theorem quote_len3 (T : PrintTabs) (s : ByteArray) (j : Nat) (hj : j < s.size) (hb : (s.get! j).toNat = 10 ∨ (s.get! j).toNat = 13) : s.size + 3 ≤ (quoteZ T s).length := by
  have := (from_facts T s.size s (Nat.le_refl _)).2.2 j hj hb
  unfold quoteZ
  simp only [List.length_cons, List.length_append, List.length_nil]
  omega

end Go.Proofs.Qxb6614942aDoor
