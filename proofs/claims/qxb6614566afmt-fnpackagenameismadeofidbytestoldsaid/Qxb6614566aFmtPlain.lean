/-
  THE PLAIN LAW of FnPackageNameIsMadeOfIDBytes: no Go in sight. What each Go function on the road computes, as a Bool function on bytes; and that a name whose every segment is a segment of a package name is made of id bytes and slashes alone.
-/
import Derived.Lib.SplitLaws
namespace Go.Proofs.Qxb6614566aFmt.Pl
open Go.Lib

def lowB (c : Int) : Bool := decide (97 ≤ c) && decide (c ≤ 122)
def digB (c : Int) : Bool := decide (48 ≤ c) && decide (c ≤ 57)
def nameB (c : Int) : Bool := lowB c || digB c || decide (c = 45)
def idB (c : Int) : Bool := lowB c || (decide (65 ≤ c) && decide (c ≤ 90)) || digB c || decide (c = 58) || decide (c = 46) || decide (c = 95) || decide (c = 45)

def allName (l : List UInt8) : Bool := l.all fun b => nameB b.toNat
def allId (l : List UInt8) : Bool := l.all fun b => idB b.toNat
def segOK (l : List UInt8) : Bool := !l.isEmpty && decide (l.length ≤ 64) && !(l.head? == some 45) && allName l
def idOK (l : List UInt8) : Bool := !l.isEmpty && decide (l.length ≤ 128) && allId l
def nameOK (s : List UInt8) : Bool := decide (count s [47] ≤ 1) && (splitK [47] 0 (count s [47]) s).all segOK
def slashed (l : List UInt8) : Bool := l.any fun b => b == 47
def allIdOrSlash (l : List UInt8) : Bool := l.all fun b => b == 47 || idB b.toNat

theorem name_id (c : Int) (h : nameB c = true) : idB c = true := by
  unfold nameB at h; unfold idB
  cases hl : lowB c <;> cases hd : digB c <;> simp_all

theorem idx_lit (b : UInt8) : decide (0 ≤ indexByte [58, 46, 95, 45] b) = (decide ((b.toNat : Int) = 58) || decide ((b.toNat : Int) = 46) || decide ((b.toNat : Int) = 95) || decide ((b.toNat : Int) = 45)) := by
  have h : ∀ n : Fin 256, decide (0 ≤ indexByte [58, 46, 95, 45] (UInt8.ofNat n.val)) = (decide ((n.val : Int) = 58) || decide ((n.val : Int) = 46) || decide ((n.val : Int) = 95) || decide ((n.val : Int) = 45)) := by decide +kernel
  have := h ⟨b.toNat, b.toNat_lt⟩
  simpa using this

/-- Every byte other than the slash lies in a piece. -/
theorem pieces_cover : ∀ (k : Nat) (s : List UInt8) (b : UInt8), b ∈ s → b ≠ 47 → ∃ p ∈ splitK [47] 0 k s, b ∈ p
  | 0, s, b, hb, _ => ⟨s, by simp [splitK], hb⟩
  | k + 1, s, b, hb, hn => by
    unfold splitK
    by_cases hix : index s [47] = -1
    · rw [if_pos (beq_iff_eq.2 hix)]
      exact ⟨s, by simp, hb⟩
    · rw [if_neg (fun e => hix (beq_iff_eq.1 e))]
      have hge := indexByte_ge s 47
      rw [index_one] at hix ⊢
      obtain ⟨i, hi⟩ : ∃ i : Nat, indexByte s 47 = i := ⟨(indexByte s 47).toNat, by omega⟩
      have hs := (indexByte_some hi).1
      rw [hi]
      simp only [Int.toNat_natCast, Nat.add_zero, List.length_cons, List.length_nil, Nat.zero_add]
      obtain ⟨j, hj⟩ := List.mem_iff_getElem?.1 hb
      rcases Nat.lt_trichotomy j i with h | h | h
      · exact ⟨s.take i, by simp, List.mem_iff_getElem?.2 ⟨j, by rw [List.getElem?_take, if_pos h]; exact hj⟩⟩
      · subst h; rw [hs] at hj; exact absurd (Option.some.inj hj).symm hn
      · obtain ⟨p, hp, hbp⟩ := pieces_cover k (s.drop (i + 1)) b (List.mem_iff_getElem?.2 ⟨j - (i + 1), by rw [List.getElem?_drop, show i + 1 + (j - (i + 1)) = j by omega]; exact hj⟩) hn
        exact ⟨p, List.mem_cons_of_mem _ hp, hbp⟩

/-- No slash: one piece, the whole. -/
theorem one_piece (k : Nat) (s : List UInt8) (h : slashed s = false) : splitK [47] 0 k s = [s] := by
  cases k with
  | zero => rfl
  | succ k =>
    unfold splitK
    have hix : index s [47] = -1 := by
      rw [index_one]
      have hge := indexByte_ge s 47
      by_cases e : indexByte s 47 = -1
      · exact e
      · obtain ⟨i, hi⟩ : ∃ i : Nat, indexByte s 47 = i := ⟨(indexByte s 47).toNat, by omega⟩
        have hs := (indexByte_some hi).1
        have : slashed s = true := List.any_eq_true.2 ⟨47, List.mem_of_getElem? hs, rfl⟩
        rw [h] at this; cases this
    rw [if_pos (beq_iff_eq.2 hix)]

theorem segOK_id (p : List UInt8) (h : segOK p = true) (b : UInt8) (hb : b ∈ p) : idB b.toNat = true := by
  unfold segOK allName at h
  simp only [Bool.and_eq_true, List.all_eq_true] at h
  exact name_id _ (h.2 b hb)

/-- THE LAW, first half: an accepted name is made of id bytes and slashes. -/
theorem law_bytes (s : List UInt8) (h : nameOK s = true) : allIdOrSlash s = true := by
  unfold nameOK at h
  simp only [Bool.and_eq_true, List.all_eq_true] at h
  unfold allIdOrSlash
  rw [List.all_eq_true]
  intro b hb
  by_cases e : b = 47
  · simp [e]
  · obtain ⟨p, hp, hbp⟩ := pieces_cover (count s [47]) s b hb e
    simp [segOK_id p (h.2 p hp) b hbp]

/-- THE LAW, second half: an accepted name of one segment is a content id. -/
theorem law_id (s : List UInt8) (h : nameOK s = true) (hn : slashed s = false) : idOK s = true := by
  unfold nameOK at h
  rw [one_piece _ s hn] at h
  simp only [Bool.and_eq_true, List.all_cons, List.all_nil, and_true] at h
  have hs := h.2
  unfold idOK allId
  have hid : ∀ b ∈ s, idB b.toNat = true := fun b hb => segOK_id s hs b hb
  unfold segOK at hs
  simp only [Bool.and_eq_true, decide_eq_true_eq] at hs ⊢
  exact ⟨⟨hs.1.1.1, by omega⟩, List.all_eq_true.2 hid⟩

end Go.Proofs.Qxb6614566aFmt.Pl
