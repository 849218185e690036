/-
  THE WALKS (4): the law itself.
-/
import Derived.Test.Qxb6614566aFmtWalks3
namespace Go.Proofs.Qxb6614566aFmt
open Go.RowKit Go.Extern.Stop Go.Stop Go.Extern Go.Kit

set_option maxHeartbeats 400000 in
theorem zzBytes_yes (s : ByteArray) (w : World) (hs : (s.size : Int) ≤ 1048576) :
    Calls Tryf.prog 4 #[.string s] w fun e w' => e = .returned (.bool true) ∧ w' = w := by
  go_enter Tryf.func4, Tryf.ntmps4
  go_wp2
  go_ret
  exact ⟨rfl, rfl⟩

set_option maxHeartbeats 400000 in
theorem zzBytes_no (s : ByteArray) (w : World) (hs : 1048576 < (s.size : Int)) :
    Calls Tryf.prog 4 #[.string s] w fun e w' => e = .returned (.bool false) ∧ w' = w := by
  go_enter Tryf.func4, Tryf.ntmps4
  go_wp2
  go_ret
  exact ⟨rfl, rfl⟩

set_option maxHeartbeats 400000 in
theorem zzIs_any (b : UInt8) (w : World) :
    Calls Tryf.prog 6 #[.int .u8 b.toNat] w fun e w' => e = .returned (.bool (Pl.idB b.toNat)) ∧ w' = w := by
  go_enter Tryf.func6, Tryf.ntmps6
  go_wp2_with (go_at_call 11; refine (isIDByte_any _ _).mono ?_; rintro e w' ⟨rfl, rfl⟩)
  go_ret
  exact ⟨rfl, rfl⟩

set_option maxHeartbeats 400000 in
theorem top_great (s : ByteArray) (w : World) (hs : 1048576 < (s.size : Int)) :
    Calls Tryf.prog 3 #[.string s] w fun e w' => e = .returned (.bool true) ∧ Below w.heap.size w w' := by
  go_enter Tryf.func3, Tryf.ntmps3
  go_wp2_with (go_at_call 4; refine (zzBytes_no _ _ hs).mono ?_; rintro e w' ⟨rfl, rfl⟩)
  go_ret
  exact ⟨rfl, Below.refl _ _⟩

set_option maxHeartbeats 400000 in
theorem top_refused (F : Interp) (s : ByteArray) (w : World) (hF : F.told.answers w.tape) (hsh : w.ShapedOpen Tryf.prog) (hs : (s.size : Int) ≤ 1048576) (hno : Pl.nameOK s.data.toList = false) :
    Calls Tryf.prog 3 #[.string s] w fun e w' => e = .returned (.bool true) ∧ Below w.heap.size w w' := by
  have hs' : s.size ≤ 1048576 := by omega
  go_enter Tryf.func3, Tryf.ntmps3
  go_wp2_with (first | (go_at_call 4; refine (zzBytes_yes _ _ hs).mono ?_; rintro e w' ⟨rfl, rfl⟩) | (go_at_call 5; refine (checkName_any F s _ hF hsh hs').mono ?_; rintro e w1 ⟨_, h2, hb⟩; obtain ⟨a, rfl⟩ := h2 hno; clear h2))
  go_loop [4, 5, 6] (fun sl al i => ∃ (k : Nat) (b1 b2 : Bool), k ≤ s.size ∧ i = .int .i64 k ∧ sl = .bool b1 ∧ al = .bool b2) (fun _ _ i => s.size - (intOf i).toNat)
  case atStart => exact ⟨0, false, true, Nat.zero_le _, rfl, rfl, rfl⟩
  case round =>
    obtain ⟨k, b1, b2, hk, rfl, rfl, rfl⟩ := hrel
    by_cases hlt : k < s.size
    · cases h47 : ((s[k].toNat : Int) == 47)
      · cases hid : Pl.idB s[k].toNat
        all_goals
          go_wp2_with (go_at_call 6; refine (zzIs_any _ _).mono ?_; rintro e w' ⟨rfl, rfl⟩)
          go_round
          case rel => exact ⟨k + 1, _, _, by omega, by go_num, rfl, rfl⟩
          case measure => simp [intOf]; omega
      · go_wp2
        go_round
        case rel => exact ⟨k + 1, _, _, by omega, by go_num, rfl, rfl⟩
        case measure => simp [intOf]; omega
    · go_wp2
      go_ret
      exact ⟨rfl, hb⟩

theorem slashed_snoc (l : List UInt8) (k : Nat) (h : k < l.length) : Pl.slashed (l.take (k + 1)) = (Pl.slashed (l.take k) || l[k] == 47) := by
  unfold Pl.slashed
  rw [List.take_succ_eq_append_getElem h, List.any_append]; simp

theorem byte47 (b : UInt8) : ((b.toNat : Int) == 47) = (b == 47) := by
  rw [Bool.eq_iff_iff, beq_iff_eq, beq_iff_eq]
  constructor
  · intro h
    apply UInt8.toNat_inj.1
    show b.toNat = 47
    omega
  · intro h; rw [h]; rfl

set_option maxHeartbeats 400000 in
theorem top_accepted (F : Interp) (s : ByteArray) (w : World) (hF : F.told.answers w.tape) (hsh : w.ShapedOpen Tryf.prog) (hs : (s.size : Int) ≤ 1048576) (hyes : Pl.nameOK s.data.toList = true) (sl0 : Bool) (hsl : Pl.slashed s.data.toList = sl0) :
    Calls Tryf.prog 3 #[.string s] w fun e w' => e = .returned (.bool true) ∧ Below w.heap.size w w' := by
  have hs' : s.size ≤ 1048576 := by omega
  have hall := Pl.law_bytes _ hyes
  have hida := Pl.law_id s.data.toList hyes
  have HA := hide hall
  have HI := hide hida
  have HS := hide hsl
  clear hall hida hsl
  go_enter Tryf.func3, Tryf.ntmps3
  go_wp2_with (first | (go_at_call 4; refine (zzBytes_yes _ _ hs).mono ?_; rintro e w' ⟨rfl, rfl⟩) | (go_at_call 5; refine (checkName_any F s _ hF hsh hs').mono ?_; rintro e w1 ⟨h1, _, hb⟩; obtain rfl := h1 hyes; clear h1))
  go_loop [4, 5, 6] (fun sl al i => ∃ (k : Nat) (b1 : Bool), k ≤ s.size ∧ i = .int .i64 k ∧ sl = .bool b1 ∧ al = .bool true ∧ Hid (b1 = Pl.slashed (s.data.toList.take k))) (fun _ _ i => s.size - (intOf i).toNat)
  case atStart => exact ⟨0, false, Nat.zero_le _, rfl, rfl, rfl, rfl⟩
  case round =>
    obtain ⟨k, b1, hk, rfl, rfl, rfl, hb1⟩ := hrel
    by_cases hlt : k < s.size
    · have hkl : k < s.data.toList.length := by simpa using hlt
      have hget : Hid (s.data.toList[k] = s[k]) := rfl
      have hok : Hid (((s[k].toNat : Int) == 47) = true ∨ Pl.idB s[k].toNat = true) := by
        have h := List.all_eq_true.1 (unhide HA) s[k] (by rw [← unhide hget]; exact List.getElem_mem _)
        rw [byte47]
        exact hide (by simpa using h)
      cases h47 : ((s[k].toNat : Int) == 47)
      · have hid : Pl.idB s[k].toNat = true := by
          rcases unhide hok with h | h
          · rw [h47] at h; cases h
          · exact h
        go_wp2_with (go_at_call 6; refine (zzIs_any _ _).mono ?_; rintro e w' ⟨rfl, rfl⟩)
        go_round
        case rel => exact ⟨k + 1, b1, by omega, by go_num, rfl, rfl, hide (by rw [slashed_snoc _ _ hkl, ← unhide hb1, unhide hget, ← byte47, h47, Bool.or_false])⟩
        case measure => simp [intOf]; omega
      · go_wp2
        go_round
        case rel => exact ⟨k + 1, true, by omega, by go_num, rfl, rfl, hide (by rw [slashed_snoc _ _ hkl, unhide hget, ← byte47, h47, Bool.or_true])⟩
        case measure => simp [intOf]; omega
    · have e : s.data.toList.take k = s.data.toList := List.take_of_length_le (by simp; omega)
      have e1 : b1 = sl0 := by
        have h := unhide hb1
        rw [e, unhide HS] at h
        exact h
      subst e1
      cases b1
      · have hid : Pl.idOK s.data.toList = true := unhide HI (unhide HS)
        go_wp2_with (go_at_call 7; refine (checkID_good s _ hid).mono ?_; rintro e w' ⟨rfl, rfl⟩)
        go_ret
        exact ⟨rfl, hb⟩
      · go_wp2
        go_ret
        exact ⟨rfl, hb⟩

/-- THE LAW's WALK: whatever the string, true comes back and nothing that was there has turned. -/
theorem top_any (F : Interp) (s : ByteArray) (w : World) (hF : F.told.answers w.tape) (hsh : w.ShapedOpen Tryf.prog) :
    Calls Tryf.prog 3 #[.string s] w fun e w' => e = .returned (.bool true) ∧ Below w.heap.size w w' := by
  by_cases hs : (s.size : Int) ≤ 1048576
  · cases hno : Pl.nameOK s.data.toList with
    | false => exact top_refused F s w hF hsh hs hno
    | true => exact top_accepted F s w hF hsh hs hno _ rfl
  · exact top_great s w (by omega)

end Go.Proofs.Qxb6614566aFmt
