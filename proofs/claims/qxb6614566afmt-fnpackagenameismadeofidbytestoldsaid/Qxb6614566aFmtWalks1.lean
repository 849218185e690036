/-
  THE WALKS (1): the byte tests and 'every'.
-/
import Derived.Test.Qxb6614566aFmtRows
import Derived.Test.Qxb6614566aFmtPlain
import Derived.Test.Qxb6614566aFmtShelf
import Derived.WalkKit
import Derived.WalkSpells
import Derived.WalkLawsBesides
namespace Go.Proofs.Qxb6614566aFmt
open Go.RowKit Go.Extern.Stop Go.Stop Go.Extern

theorem hide {p : Prop} (h : p) : Hid p := h
theorem unhide {p : Prop} (h : Hid p) : p := h
theorem ret_bool {a b : Bool} (h : a = b) : Ending.returned (.bool a) = .returned (.bool b) := by rw [h]

set_option maxHeartbeats 400000 in
theorem isLower_any (c : Int) (w : World) :
    Calls Tryf.prog 18 #[.int .u8 c] w fun e w' => e = .returned (.bool (Pl.lowB c)) ∧ w' = w := by
  by_cases h1 : 97 ≤ c <;> by_cases h2 : c ≤ 122
  all_goals
    go_enter Tryf.func18, Tryf.ntmps18
    go_wp2
    go_ret
    exact ⟨ret_bool (by simp [Pl.lowB]; try omega), rfl⟩

set_option maxHeartbeats 400000 in
theorem isDigit_any (c : Int) (w : World) :
    Calls Tryf.prog 19 #[.int .u8 c] w fun e w' => e = .returned (.bool (Pl.digB c)) ∧ w' = w := by
  by_cases h1 : 48 ≤ c <;> by_cases h2 : c ≤ 57
  all_goals
    go_enter Tryf.func19, Tryf.ntmps19
    go_wp2
    go_ret
    exact ⟨ret_bool (by simp [Pl.digB]; try omega), rfl⟩

set_option maxHeartbeats 400000 in
theorem isNameByte_any (c : Int) (w : World) :
    Calls Tryf.prog 17 #[.int .u8 c] w fun e w' => e = .returned (.bool (Pl.nameB c)) ∧ w' = w := by
  cases h1 : Pl.lowB c <;> cases h2 : Pl.digB c
  all_goals
    go_enter Tryf.func17, Tryf.ntmps17
    go_wp2_with (first | (go_at_call 18; refine (isLower_any _ _).mono ?_; rintro e w' ⟨rfl, rfl⟩) | (go_at_call 19; refine (isDigit_any _ _).mono ?_; rintro e w' ⟨rfl, rfl⟩))
    go_ret
    exact ⟨ret_bool (by simp [Pl.nameB, h1, h2]; try rfl), rfl⟩


set_option maxHeartbeats 400000 in
theorem isIDByte_any (b : UInt8) (w : World) :
    Calls Tryf.prog 11 #[.int .u8 b.toNat] w fun e w' => e = .returned (.bool (Pl.idB b.toNat)) ∧ w' = w := by
  have h45 : (b.toNat : Int) < 65 ∨ (65 ≤ (b.toNat : Int) ∧ (b.toNat : Int) ≤ 90) ∨ 90 < (b.toNat : Int) := by omega
  cases h1 : Pl.lowB b.toNat <;> cases h3 : Pl.digB b.toNat <;> rcases h45 with h4 | ⟨h4, h5⟩ | h4
  all_goals
    go_enter Tryf.func11, Tryf.ntmps11
    go_wp2_with (first | (go_at_call 18; refine (isLower_any _ _).mono ?_; rintro e w' ⟨rfl, rfl⟩) | (go_at_call 19; refine (isDigit_any _ _).mono ?_; rintro e w' ⟨rfl, rfl⟩) | (go_at_call 20; refine (Tryf.strings_IndexByte _ _ _).mono ?_; rintro e w' ⟨rfl, rfl⟩))
    go_ret
    refine ⟨ret_bool ?_, rfl⟩
    rw [Bool.eq_iff_iff]
    simp [Pl.idB, Pl.idx_lit, h1, h3]
    try omega

theorem all_snoc (p : UInt8 → Bool) (l : List UInt8) (k : Nat) (h : k < l.length) : (l.take (k + 1)).all p = ((l.take k).all p && p l[k]) := by
  rw [List.take_succ_eq_append_getElem h, List.all_append]; simp
theorem all_false (p : UInt8 → Bool) (l : List UInt8) (k : Nat) (h : k < l.length) (hp : p l[k] = false) : l.all p = false := by
  rw [List.all_eq_false]; exact ⟨l[k], List.getElem_mem _, by simp [hp]⟩

set_option maxHeartbeats 400000 in
theorem every_name (s : ByteArray) (w : World) (hs : s.size ≤ maxLen) :
    Calls Tryf.prog 12 #[.string s, .func (.func 17) #[] #[]] w fun e w' => e = .returned (.bool (Pl.allName s.data.toList)) ∧ w' = w := by
  unfold maxLen at hs
  go_enter Tryf.func12, Tryf.ntmps12
  go_wp2
  go_loop [5] (fun i => ∃ k : Nat, k ≤ s.size ∧ i = .int .i64 k ∧ Pl.allName (s.data.toList.take k) = true) (fun i => s.size - (intOf i).toNat)
  case atStart => exact ⟨0, Nat.zero_le _, rfl, rfl⟩
  case round =>
    obtain ⟨k, hk, rfl, ht⟩ := hrel
    have HT := hide ht
    clear ht
    by_cases hlt : k < s.size
    · have hkl : k < s.data.toList.length := by simpa using hlt
      have hget : s.data.toList[k] = s[k] := rfl
      have hg := hide hget
      clear hget
      cases hb : Pl.nameB s[k].toNat
      · go_wp2_with (go_at_call 17; refine (isNameByte_any _ _).mono ?_; rintro e w' ⟨rfl, rfl⟩)
        go_ret
        exact ⟨ret_bool (all_false _ _ k hkl (by rw [unhide hg]; exact hb)).symm, rfl⟩
      · go_wp2_with (go_at_call 17; refine (isNameByte_any _ _).mono ?_; rintro e w' ⟨rfl, rfl⟩)
        go_round
        case rel => exact ⟨k + 1, by omega, by go_num, by unfold Pl.allName; rw [all_snoc _ _ k hkl, unhide hg, hb, Bool.and_true]; exact unhide HT⟩
        case measure => simp [intOf]; omega
    · go_wp2
      go_ret
      have e : s.data.toList.take k = s.data.toList := List.take_of_length_le (by simp; omega)
      have h2 := unhide HT
      rw [e] at h2
      exact ⟨ret_bool h2.symm, rfl⟩

set_option maxHeartbeats 400000 in
theorem every_id (s : ByteArray) (w : World) (hs : s.size ≤ maxLen) :
    Calls Tryf.prog 12 #[.string s, .func (.func 11) #[] #[]] w fun e w' => e = .returned (.bool (Pl.allId s.data.toList)) ∧ w' = w := by
  unfold maxLen at hs
  go_enter Tryf.func12, Tryf.ntmps12
  go_wp2
  go_loop [5] (fun i => ∃ k : Nat, k ≤ s.size ∧ i = .int .i64 k ∧ Pl.allId (s.data.toList.take k) = true) (fun i => s.size - (intOf i).toNat)
  case atStart => exact ⟨0, Nat.zero_le _, rfl, rfl⟩
  case round =>
    obtain ⟨k, hk, rfl, ht⟩ := hrel
    have HT := hide ht
    clear ht
    by_cases hlt : k < s.size
    · have hkl : k < s.data.toList.length := by simpa using hlt
      have hget : s.data.toList[k] = s[k] := rfl
      have hg := hide hget
      clear hget
      cases hb : Pl.idB s[k].toNat
      · go_wp2_with (go_at_call 11; refine (isIDByte_any _ _).mono ?_; rintro e w' ⟨rfl, rfl⟩)
        go_ret
        exact ⟨ret_bool (all_false _ _ k hkl (by rw [unhide hg]; exact hb)).symm, rfl⟩
      · go_wp2_with (go_at_call 11; refine (isIDByte_any _ _).mono ?_; rintro e w' ⟨rfl, rfl⟩)
        go_round
        case rel => exact ⟨k + 1, by omega, by go_num, by unfold Pl.allId; rw [all_snoc _ _ k hkl, unhide hg, hb, Bool.and_true]; exact unhide HT⟩
        case measure => simp [intOf]; omega
    · go_wp2
      go_ret
      have e : s.data.toList.take k = s.data.toList := List.take_of_length_le (by simp; omega)
      have h2 := unhide HT
      rw [e] at h2
      exact ⟨ret_bool h2.symm, rfl⟩

end Go.Proofs.Qxb6614566aFmt
