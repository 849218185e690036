/-
  THE WALKS (2): checkSegment, its two texts told by fmt's trusted function (FmtText): each begins with a letter, so it is not empty.
-/
import Derived.Test.Qxb6614566aFmtWalks1
import Derived.Test.Qxb6614566aFmtFacts
import Derived.Stop.Texts
import Derived.Stop.JoinedTold
import Derived.Stop.FmtTextKit
import Derived.Stop.FmtTextVerbs
import Derived.Stop.FmtQuoteTie
namespace Go.Proofs.Qxb6614566aFmt
open Go.RowKit Go.Extern.Stop Go.Stop Go.Extern Go.Kit

attribute [local go_sem] Tryf.call14 Tryf.call16 Tryf.guard Tryf.fm1 Tryf.fm1r Tryf.fm1z Tryf.fm1zr Tryf.fm2 Tryf.fm2r Tryf.fm2z Tryf.fm2zr Tryf.fm3 Tryf.fm3r Tryf.fm3z Tryf.fm3zr Tryf.fm4 Tryf.fm4r Tryf.fm4z Tryf.fm4zr Tryf.fm5 Tryf.fm5r Tryf.fm5z Tryf.fm5zr Tryf.fm6 Tryf.fm6r Tryf.fm6z Tryf.fm6zr Tryf.op9_113 Tryf.op9_113w Tryf.op9_115w Tryf.strict9 Tryf.ptr39 Tryf.elem39 Tryf.isError39 Tryf.ptr34 Tryf.elem34 Tryf.isError34

theorem parse3 : (FmtText.parse [115, 101, 103, 109, 101, 110, 116, 32, 37, 113, 32, 98, 101, 103, 105, 110, 115, 32, 119, 105, 116, 104, 32, 97, 32, 104, 121, 112, 104, 101, 110]).map FmtText.glue = some [.lit [115, 101, 103, 109, 101, 110, 116, 32], .verb {} 113, .lit [32, 98, 101, 103, 105, 110, 115, 32, 119, 105, 116, 104, 32, 97, 32, 104, 121, 112, 104, 101, 110]] := by rfl
set_option maxRecDepth 100000 in
theorem parse4 : (FmtText.parse [115, 101, 103, 109, 101, 110, 116, 32, 37, 113, 32, 104, 111, 108, 100, 115, 32, 97, 32, 99, 104, 97, 114, 97, 99, 116, 101, 114, 32, 111, 116, 104, 101, 114, 32, 116, 104, 97, 110, 32, 97, 32, 108, 111, 119, 101, 114, 99, 97, 115, 101, 32, 65, 83, 67, 73, 73, 32, 108, 101, 116, 116, 101, 114, 44, 32, 100, 105, 103, 105, 116, 32, 111, 114, 32, 104, 121, 112, 104, 101, 110]).map FmtText.glue = some [.lit [115, 101, 103, 109, 101, 110, 116, 32], .verb {} 113, .lit [32, 104, 111, 108, 100, 115, 32, 97, 32, 99, 104, 97, 114, 97, 99, 116, 101, 114, 32, 111, 116, 104, 101, 114, 32, 116, 104, 97, 110, 32, 97, 32, 108, 111, 119, 101, 114, 99, 97, 115, 101, 32, 65, 83, 67, 73, 73, 32, 108, 101, 116, 116, 101, 114, 44, 32, 100, 105, 103, 105, 116, 32, 111, 114, 32, 104, 121, 112, 104, 101, 110]] := by rfl

/-- What the call asks of fmt. -/
def asked (fm nm : List UInt8) : List (List UInt8) := [fm, Tryf.shape9, FmtStop.pack nm]

theorem text3 (nm : List UInt8) (hs : nm.length < 2 ^ 64) : FmtText.text "fmt.Sprintf" (asked [115, 101, 103, 109, 101, 110, 116, 32, 37, 113, 32, 98, 101, 103, 105, 110, 115, 32, 119, 105, 116, 104, 32, 97, 32, 104, 121, 112, 104, 101, 110] nm) = some ([115, 101, 103, 109, 101, 110, 116, 32] ++ FmtText.quote false nm ++ [32, 98, 101, 103, 105, 110, 115, 32, 119, 105, 116, 104, 32, 97, 32, 104, 121, 112, 104, 101, 110]) := by
  rw [asked, FmtText.text_sprintf_glued parse3 (FmtText.operands_cons (FmtText.operand_str_at (sh := Tryf.shape9) rfl rfl nm hs) FmtText.operands_nil)]
  simp [FmtText.render, FmtText.printArg_q_str]
theorem text4 (nm : List UInt8) (hs : nm.length < 2 ^ 64) : FmtText.text "fmt.Sprintf" (asked [115, 101, 103, 109, 101, 110, 116, 32, 37, 113, 32, 104, 111, 108, 100, 115, 32, 97, 32, 99, 104, 97, 114, 97, 99, 116, 101, 114, 32, 111, 116, 104, 101, 114, 32, 116, 104, 97, 110, 32, 97, 32, 108, 111, 119, 101, 114, 99, 97, 115, 101, 32, 65, 83, 67, 73, 73, 32, 108, 101, 116, 116, 101, 114, 44, 32, 100, 105, 103, 105, 116, 32, 111, 114, 32, 104, 121, 112, 104, 101, 110] nm) = some ([115, 101, 103, 109, 101, 110, 116, 32] ++ FmtText.quote false nm ++ [32, 104, 111, 108, 100, 115, 32, 97, 32, 99, 104, 97, 114, 97, 99, 116, 101, 114, 32, 111, 116, 104, 101, 114, 32, 116, 104, 97, 110, 32, 97, 32, 108, 111, 119, 101, 114, 99, 97, 115, 101, 32, 65, 83, 67, 73, 73, 32, 108, 101, 116, 116, 101, 114, 44, 32, 100, 105, 103, 105, 116, 32, 111, 114, 32, 104, 121, 112, 104, 101, 110]) := by
  rw [asked, FmtText.text_sprintf_glued parse4 (FmtText.operands_cons (FmtText.operand_str_at (sh := Tryf.shape9) rfl rfl nm hs) FmtText.operands_nil)]
  simp [FmtText.render, FmtText.printArg_q_str]

theorem isEmpty_list (r : ByteArray) : r.toList.isEmpty = r.data.toList.isEmpty := by
  rw [ByteArray.toList_eq]

/-- A told text is not empty. -/
theorem told_some (F : Interp) (fm nm pr tl : List UInt8) (hs : nm.length ≤ 1048576) (hp : pr.length = 8) (ht : tl.length ≤ 200) (h : FmtText.text "fmt.Sprintf" (asked fm nm) = some (pr ++ FmtText.quote false nm ++ tl)) :
    (FmtStop.textOf (F.told "fmt.Sprintf" (asked fm nm) 0)).toList.isEmpty = false := by
  have hq := FmtText.quote_length_le nm
  have e := told_string F h (by simp; omega)
  rw [isEmpty_list, textOf_list, e]
  cases pr with
  | nil => simp at hp
  | cons a l => rfl

set_option maxHeartbeats 400000 in
theorem seg_empty (w : World) :
    Calls Tryf.prog 10 #[.string ⟨#[]⟩] w fun e w' => ∃ r : ByteArray, e = .returned (.string r) ∧ r.toList.isEmpty = false ∧ Below w.heap.size w w' := by
  go_enter Tryf.func10, Tryf.ntmps10
  go_wp2
  go_ret
  exact ⟨_, rfl, by rw [isEmpty_list]; rfl, Below.refl _ _⟩

set_option maxHeartbeats 400000 in
theorem seg_long (s : ByteArray) (w : World) (h0 : s.toList.isEmpty = false) (h : 64 < (s.size : Int)) :
    Calls Tryf.prog 10 #[.string s] w fun e w' => ∃ r : ByteArray, e = .returned (.string r) ∧ r.toList.isEmpty = false ∧ Below w.heap.size w w' := by
  go_enter Tryf.func10, Tryf.ntmps10
  go_wp2
  go_ret
  exact ⟨_, rfl, by rw [isEmpty_list]; rfl, Below.refl _ _⟩

set_option maxHeartbeats 400000 in
theorem seg_hyphen (F : Interp) (s : ByteArray) (w : World) (hF : F.answers w.tape) (h0 : s.toList.isEmpty = false) (hp : 0 < s.size) (h : (s.size : Int) ≤ 64) (hh : ((s[0].toNat : Int) == 45) = true) :
    Calls Tryf.prog 10 #[.string s] w fun e w' => e = .returned (.string (FmtStop.textOf (F "fmt.Sprintf" (asked [115, 101, 103, 109, 101, 110, 116, 32, 37, 113, 32, 98, 101, 103, 105, 110, 115, 32, 119, 105, 116, 104, 32, 97, 32, 104, 121, 112, 104, 101, 110] s.data.toList) 0))) ∧ Below w.heap.size w w' := by
  have hF' := answers_open hF
  go_enter Tryf.func10, Tryf.ntmps10
  go_wp2
  go_ret
  exact ⟨rfl, ((Below.refl _ _).alloc (Nat.le_refl _) _).drew⟩

set_option maxHeartbeats 400000 in
theorem seg_bad (F : Interp) (s : ByteArray) (w : World) (hF : F.answers w.tape) (h0 : s.toList.isEmpty = false) (hp : 0 < s.size) (h : (s.size : Int) ≤ 64) (hh : ((s[0].toNat : Int) == 45) = false) (ha : Pl.allName s.data.toList = false) :
    Calls Tryf.prog 10 #[.string s] w fun e w' => e = .returned (.string (FmtStop.textOf (F "fmt.Sprintf" (asked [115, 101, 103, 109, 101, 110, 116, 32, 37, 113, 32, 104, 111, 108, 100, 115, 32, 97, 32, 99, 104, 97, 114, 97, 99, 116, 101, 114, 32, 111, 116, 104, 101, 114, 32, 116, 104, 97, 110, 32, 97, 32, 108, 111, 119, 101, 114, 99, 97, 115, 101, 32, 65, 83, 67, 73, 73, 32, 108, 101, 116, 116, 101, 114, 44, 32, 100, 105, 103, 105, 116, 32, 111, 114, 32, 104, 121, 112, 104, 101, 110] s.data.toList) 0))) ∧ Below w.heap.size w w' := by
  have hF' := answers_open hF
  have hm : s.size ≤ maxLen := by unfold maxLen; omega
  go_enter Tryf.func10, Tryf.ntmps10
  go_wp2_with (go_at_call 12; refine (every_name _ _ hm).mono ?_; rintro e w' ⟨rfl, rfl⟩)
  go_ret
  exact ⟨rfl, ((Below.refl _ _).alloc (Nat.le_refl _) _).drew⟩

set_option maxHeartbeats 400000 in
theorem seg_good (s : ByteArray) (w : World) (h0 : s.toList.isEmpty = false) (hp : 0 < s.size) (h : (s.size : Int) ≤ 64) (hh : ((s[0].toNat : Int) == 45) = false) (ha : Pl.allName s.data.toList = true) :
    Calls Tryf.prog 10 #[.string s] w fun e w' => e = .returned (.string ⟨#[]⟩) ∧ w' = w := by
  have hm : s.size ≤ maxLen := by unfold maxLen; omega
  go_enter Tryf.func10, Tryf.ntmps10
  go_wp2_with (go_at_call 12; refine (every_name _ _ hm).mono ?_; rintro e w' ⟨rfl, rfl⟩)
  go_ret
  exact ⟨rfl, rfl⟩

theorem size_pos (s : ByteArray) (h : s.data.toList.isEmpty = false) : 0 < s.size := by
  rcases Nat.eq_zero_or_pos s.size with e | e
  · exfalso
    have : s.data.toList = [] := List.length_eq_zero_iff.1 (by simpa using e)
    rw [this] at h; cases h
  · exact e

theorem head_get (s : ByteArray) (hp : 0 < s.size) : s.data.toList.head? = some s[0] := by
  rw [List.head?_eq_getElem?, List.getElem?_eq_getElem (by simpa using hp)]; rfl

/-- checkSegment, whatever the segment: the text that it returns is empty just where the segment is one of a package name. -/
theorem checkSegment_any (F : Interp) (s : ByteArray) (w : World) (hF : F.told.answers w.tape) :
    Calls Tryf.prog 10 #[.string s] w fun e w' => ∃ r : ByteArray, e = .returned (.string r) ∧ r.toList.isEmpty = Pl.segOK s.data.toList ∧ Below w.heap.size w w' := by
  cases he : s.data.toList.isEmpty with
  | true =>
    have hsz : s.data.toList = [] := List.isEmpty_iff.1 he
    obtain rfl : s = ⟨#[]⟩ := by
      obtain ⟨⟨l⟩⟩ := s
      simp at hsz
      subst hsz
      rfl
    refine (seg_empty w).mono ?_
    rintro e w' ⟨r, h1, h2, h3⟩
    exact ⟨r, h1, h2, h3⟩
  | false =>
    have hp := size_pos s he
    have h0 : s.toList.isEmpty = false := by rw [isEmpty_list]; exact he
    have hlen : s.data.toList.length = s.size := by simp
    by_cases hl : s.size ≤ 64
    · have hd : decide (s.data.toList.length ≤ 64) = true := by simpa using hl
      cases hh : ((s[0].toNat : Int) == 45) with
      | true =>
        have hne : s[0] = 45 := by
          have := beq_iff_eq.1 hh
          apply UInt8.toNat_inj.1
          show s[0].toNat = 45
          omega
        refine (seg_hyphen F.told s w hF h0 hp (by omega) hh).mono ?_
        rintro e w' ⟨rfl, hb⟩
        refine ⟨_, rfl, ?_, hb⟩
        rw [told_some F _ _ _ _ (by omega) (by decide) (by decide) (text3 s.data.toList (by omega))]
        unfold Pl.segOK
        rw [head_get s hp, hne]
        simp
      | false =>
        have hne : (s.data.toList.head? == some 45) = false := by
          rw [head_get s hp]
          have h1 := beq_eq_false_iff_ne.1 hh
          rw [beq_eq_false_iff_ne]
          intro e
          apply h1
          rw [Option.some.inj e]
          rfl
        cases ha : Pl.allName s.data.toList with
        | false =>
          refine (seg_bad F.told s w hF h0 hp (by omega) hh ha).mono ?_
          rintro e w' ⟨rfl, hb⟩
          refine ⟨_, rfl, ?_, hb⟩
          rw [told_some F _ _ _ _ (by omega) (by decide) (by decide) (text4 s.data.toList (by omega))]
          unfold Pl.segOK
          rw [ha]
          simp
        | true =>
          refine (seg_good s w h0 hp (by omega) hh ha).mono ?_
          rintro e w' ⟨rfl, rfl⟩
          refine ⟨_, rfl, ?_, Below.refl _ _⟩
          unfold Pl.segOK
          rw [isEmpty_list, ha, hne, he, hd]
          rfl
    · refine (seg_long s w h0 (by omega)).mono ?_
      rintro e w' ⟨r, h1, h2, h3⟩
      refine ⟨r, h1, ?_, h3⟩
      have hd : decide (s.data.toList.length ≤ 64) = false := by simpa using hl
      rw [h2]
      unfold Pl.segOK
      rw [hd]
      simp

end Go.Proofs.Qxb6614566aFmt
