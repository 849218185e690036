/-
  PLAIN LAWS: what the decoder tells at a byte of 128 or more. No Go walk.
-/
import Derived.Lib.QuoteLoop
import Derived.Laws.Runes
import Derived.Shelf.Unicode.DecodeSlow
namespace Go.Proofs.Qxb6003622aDoor
open Go.Lib

/-- One byte; or the width is the rune's and no byte of it is under 128. -/
theorem decodeN_facts (n b0 b1 b2 b3 : Nat) (h0 : b0 < 256) :
    ((decodeN n b0 b1 b2 b3).2 = 1 ∧ (((decodeN n b0 b1 b2 b3).1 = b0 ∧ b0 ≤ 127) ∨ ((decodeN n b0 b1 b2 b3).1 = 65533 ∧ 128 ≤ b0))) ∨
    ((decodeN n b0 b1 b2 b3).2 = 2 ∧ 128 ≤ (decodeN n b0 b1 b2 b3).1 ∧ (decodeN n b0 b1 b2 b3).1 ≤ 2047 ∧ 128 ≤ b0 ∧ 128 ≤ b1) ∨
    ((decodeN n b0 b1 b2 b3).2 = 3 ∧ 2048 ≤ (decodeN n b0 b1 b2 b3).1 ∧ (decodeN n b0 b1 b2 b3).1 ≤ 65535 ∧ 128 ≤ b0 ∧ 128 ≤ b1 ∧ 128 ≤ b2) ∨
    ((decodeN n b0 b1 b2 b3).2 = 4 ∧ 65536 ≤ (decodeN n b0 b1 b2 b3).1 ∧ 128 ≤ b0 ∧ 128 ≤ b1 ∧ 128 ≤ b2 ∧ 128 ≤ b3) := by
  generalize hd : decodeN n b0 b1 b2 b3 = p
  obtain ⟨r, wd⟩ := p
  unfold decodeN at hd
  repeat' split at hd
  all_goals
    obtain ⟨h1, h2⟩ := Prod.mk.inj hd
    subst h1
    subst h2
    clear hd
    dsimp only
    omega

theorem get_list (l : List UInt8) (j : Nat) (h : j < l.length) : (⟨l.toArray⟩ : ByteArray).get! j = l[j] := getElem!_pos l.toArray j (by simpa using h)

theorem size_list (l : List UInt8) : (⟨l.toArray⟩ : ByteArray).size = l.length := by simp [ByteArray.size]

/-- At a first byte of 128 or more: the rune and its width. -/
theorem dec_facts (l : List UInt8) (h : 0 < l.length) (hb : 128 ≤ l[0].toNat) :
    1 ≤ (Lib.decodeGo ⟨l.toArray⟩).2 ∧ (Lib.decodeGo ⟨l.toArray⟩).2 ≤ l.length ∧ (∀ j (hj : j < l.length), j < (Lib.decodeGo ⟨l.toArray⟩).2 → 128 ≤ l[j].toNat) ∧
      ((Lib.decodeGo ⟨l.toArray⟩).1 = 65533 ∨ (Utf8.valid ((Lib.decodeGo ⟨l.toArray⟩).1 : Int) = true ∧ 128 ≤ (Lib.decodeGo ⟨l.toArray⟩).1 ∧ (Utf8.encode ((Lib.decodeGo ⟨l.toArray⟩).1 : Int)).size = (Lib.decodeGo ⟨l.toArray⟩).2 ∧ 2 ≤ (Lib.decodeGo ⟨l.toArray⟩).2)) := by
  have hsz := size_list l
  have hne : ¬ (⟨l.toArray⟩ : ByteArray).size = 0 := by omega
  have hdg : Lib.decodeGo ⟨l.toArray⟩ = Utf8.decode ⟨l.toArray⟩ 0 := by unfold Lib.decodeGo; rw [if_neg hne]
  rw [hdg]
  have hd := decodeN_facts ((⟨l.toArray⟩ : ByteArray).size - 0) ((⟨l.toArray⟩ : ByteArray).get! 0).toNat ((⟨l.toArray⟩ : ByteArray).get! (0 + 1)).toNat ((⟨l.toArray⟩ : ByteArray).get! (0 + 2)).toNat ((⟨l.toArray⟩ : ByteArray).get! (0 + 3)).toNat (UInt8.toNat_lt _)
  rw [← decode_at] at hd
  have hwl := width_le ⟨l.toArray⟩ (by omega)
  rw [hsz] at hwl
  have hv := rune_valid ⟨l.toArray⟩
  have hb' : 128 ≤ ((⟨l.toArray⟩ : ByteArray).get! 0).toNat := by rw [get_list l 0 h]; exact hb
  have hg : ∀ j (hj : j < l.length), ((⟨l.toArray⟩ : ByteArray).get! j).toNat = l[j].toNat := fun j hj => by rw [get_list l j hj]
  have hv2 : (0 ≤ ((Utf8.decode ⟨l.toArray⟩ 0).1 : Int) ∧ ((Utf8.decode ⟨l.toArray⟩ 0).1 : Int) < 55296) ∨ (57343 < ((Utf8.decode ⟨l.toArray⟩ 0).1 : Int) ∧ ((Utf8.decode ⟨l.toArray⟩ 0).1 : Int) ≤ 1114111) := of_decide_eq_true hv
  clear hv
  generalize (Utf8.decode ⟨l.toArray⟩ 0).1 = R at *
  generalize (Utf8.decode ⟨l.toArray⟩ 0).2 = S at *
  have hval : Utf8.valid (R : Int) = true := by
    simp only [Utf8.valid, Bool.or_eq_true, Bool.and_eq_true, decide_eq_true_eq]
    omega
  refine ⟨by omega, hwl, fun j hj hjs => ?_, ?_⟩
  · rw [← hg j hj]
    rcases hd with ⟨h1, h2⟩ | ⟨h1, h2⟩ | ⟨h1, h2⟩ | ⟨h1, h2⟩
    · have : j = 0 := by omega
      subst this; omega
    · have : j = 0 ∨ j = 0 + 1 := by omega
      rcases this with rfl | rfl <;> omega
    · have : j = 0 ∨ j = 0 + 1 ∨ j = 0 + 2 := by omega
      rcases this with rfl | rfl | rfl <;> omega
    · have : j = 0 ∨ j = 0 + 1 ∨ j = 0 + 2 ∨ j = 0 + 3 := by omega
      rcases this with rfl | rfl | rfl | rfl <;> omega
  · by_cases hR : R = 65533
    · exact Or.inl hR
    · refine Or.inr ⟨hval, by omega, ?_, by omega⟩
      have hc : ¬ ((R : Int).toNat < 128) := by omega
      unfold Utf8.encode
      simp only [hval, if_true, hc, if_false]
      split
      · show 2 = S; omega
      · split
        · show 3 = S; omega
        · show 4 = S; omega

end Go.Proofs.Qxb6003622aDoor
