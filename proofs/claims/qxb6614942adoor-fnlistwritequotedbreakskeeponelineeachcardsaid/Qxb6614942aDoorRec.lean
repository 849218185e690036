/-
  THE RECORDS: what List.Write's text is where a list quotes breaks; zzRecordNames of it.
-/
import Derived.Test.Qxb6614942aDoorLaw4
namespace Go.Proofs.Qxb6614942aDoor
open Go.RowKit

theorem least (Q : Nat → Prop) : ∀ k, Q k → ∃ m, m ≤ k ∧ Q m ∧ ∀ i, i < m → ¬ Q i := by
  intro k
  induction k using Nat.strongRecOn with
  | ind k ih =>
    intro h
    by_cases hx : ∃ i, i < k ∧ Q i
    · obtain ⟨i, hi, hq⟩ := hx
      obtain ⟨m, h1, h2, h3⟩ := ih i hi hq
      exact ⟨m, by omega, h2, h3⟩
    · exact ⟨k, Nat.le_refl _, h, fun i hi hq => hx ⟨i, hi, hq⟩⟩

theorem broken_yes (l : List UInt8) (h : broken l = true) : ∃ k, k < l.length ∧ (rd l k = 10 ∨ rd l k = 13) := by
  unfold broken at h
  have h' : 0 ≤ Lib.indexByte l 10 ∨ 0 ≤ Lib.indexByte l 13 := by simpa using h
  rcases h' with h' | h'
  · have := (Lib.indexByte_some (l := l) (c := 10) (o := (Lib.indexByte l 10).toNat) (by omega)).1
    exact ⟨_, (List.getElem?_eq_some_iff.1 this).1, Or.inl (rd_get this)⟩
  · have := (Lib.indexByte_some (l := l) (c := 13) (o := (Lib.indexByte l 13).toNat) (by omega)).1
    exact ⟨_, (List.getElem?_eq_some_iff.1 this).1, Or.inr (rd_get this)⟩

theorem rd_ne {l : List UInt8} {i : Nat} (hi : i < l.length) (c : UInt8) (h : l[i]? ≠ some c) : rd l i ≠ c.toNat := by
  intro he
  apply h
  have e : l[i]? = some l[i] := by simp [hi]
  rw [rd_get e] at he
  rw [e]
  congr 1
  apply UInt8.toNat_inj.1
  omega

theorem broken_no (l : List UInt8) (h : ¬ broken l = true) : ∀ i, i < l.length → rd l i ≠ 10 ∧ rd l i ≠ 13 := by
  intro i hi
  unfold broken at h
  have h' : ¬ (0 ≤ Lib.indexByte l 10 ∨ 0 ≤ Lib.indexByte l 13) := by simpa using h
  have g1 := Lib.indexByte_ge l 10
  have g2 := Lib.indexByte_ge l 13
  have e1 : Lib.indexByte l 10 = -1 := by omega
  have e2 : Lib.indexByte l 13 = -1 := by omega
  exact ⟨rd_ne hi 10 (Lib.indexByte_none e1 i), rd_ne hi 13 (Lib.indexByte_none e2 i)⟩

theorem rd_bytesOf (zs : List Int) (i : Nat) (hi : i < zs.length) (hg : ∀ x ∈ zs, Good x) : rd (Lib.bytesOf zs) i = zs[i] := by
  have e : (Lib.bytesOf zs)[i]? = some (UInt8.ofNat zs[i].toNat) := by simp [Lib.bytesOf, hi]
  rw [rd_get e]
  obtain ⟨h0, h1, _, _⟩ := hg zs[i] (List.getElem_mem hi)
  simp
  omega

/-- No line feed and no carriage return stands in what is written of a name. -/
theorem enc_nobreak (T : Lib.PrintTabs) (l : List UInt8) : ∀ i, i < (enc T true l).length → rd (enc T true l) i ≠ 10 ∧ rd (enc T true l) i ≠ 13 := by
  intro i hi
  unfold enc at hi ⊢
  by_cases hb : broken l = true
  · rw [if_pos ⟨rfl, hb⟩] at hi ⊢
    rw [bytes_quote_length] at hi
    rw [rd_bytesOf _ i hi (quote_good T _)]
    obtain ⟨_, _, h2, h3⟩ := quote_good T ⟨l.toArray⟩ _ (List.getElem_mem hi)
    exact ⟨h2, h3⟩
  · rw [if_neg (fun h => hb h.2)] at hi ⊢
    exact broken_no l hb i hi

theorem enc_quoted (T : Lib.PrintTabs) (l : List UInt8) (hb : broken l = true) : l.length + 3 ≤ (enc T true l).length ∧ rd (enc T true l) 0 = 34 ∧ rd (enc T true l) ((enc T true l).length - 1) = 34 := by
  obtain ⟨k, hk, hbk⟩ := broken_yes l hb
  have hsz := size_list l
  have hlen := quote_len3 T ⟨l.toArray⟩ k (by rw [hsz]; exact hk) (by
    have e : l[k]? = some l[k] := by simp [hk]
    rw [rd_get e] at hbk
    have hg : (⟨l.toArray⟩ : ByteArray).get! k = l[k] := by
      rw [get_eq _ k (by rw [hsz]; exact hk)]
      rfl
    rw [hg]
    omega)
  rw [hsz] at hlen
  unfold enc
  rw [if_pos ⟨rfl, hb⟩, bytes_quote_length]
  have hg := quote_good T ⟨l.toArray⟩
  refine ⟨hlen, ?_, ?_⟩
  · rw [rd_bytesOf _ 0 (by omega) hg]
    rfl
  · rw [rd_bytesOf _ _ (by omega) hg]
    have e : Lib.quoteZ T ⟨l.toArray⟩ = (34 :: Lib.quoteFrom T (⟨l.toArray⟩ : ByteArray).size ⟨l.toArray⟩) ++ [34] := rfl
    simp [e]

/-- zzRecordNames of what is written of a name: true. -/
theorem record_at (T : Lib.PrintTabs) (B g o cap n m c : Nat) (x : Option Addr) (l : List UInt8) (w : World) (h : At B w (.slice x n c) l) (hn : l.length = n) (hn2 : n ≤ 262144) (hm : (enc T true l).length = m) (hr : Row w g o m (rd (enc T true l))) :
    Calls Tryd.prog 14 #[.slice (some ⟨g, o, none⟩) m cap, .slice x n c] w fun e w' => e = .returned (.bool true) ∧ ∃ q, w' = w.drewN q := by
  have hbound := enc_bound T true l
  by_cases hb : broken l = true
  · obtain ⟨h1, h2, h3⟩ := enc_quoted T l hb
    rw [hm] at h1 h3 hbound
    obtain ⟨k0, hk0, hq0⟩ := broken_yes l hb
    obtain ⟨k, hk, hq, hlow⟩ := least (fun i => rd l i = 10 ∨ rd l i = 13) k0 hq0
    rcases h with ⟨_, rfl⟩ | ⟨b, p, c', h1', h2', h3', h4', h5'⟩
    · cases hk0
    · obtain ⟨rfl, -, rfl⟩ := Value.slice.inj h1'
      have r0 := hr 0 (by omega)
      have r1 := hr (m - 1) (by omega)
      rw [h2, Nat.add_zero] at r0
      rw [h3] at r1
      have hrow := row_of h5'
      subst hn
      exact record_quoted g o cap b p c l.length m k (rd l) w (by omega) (by omega) hrow (by omega) (fun i hi => by have := hlow i hi; omega) hq h1 r0 r1
  · have he : enc T true l = l := by unfold enc; rw [if_neg (fun h => hb h.2)]
    rw [he] at hm hr
    have hnm : n = m := by omega
    subst hnm
    rcases h with ⟨_, rfl⟩ | ⟨b, p, c', h1', h2', h3', h4', h5'⟩
    · have : n = 0 := by simpa using hn.symm
      subst this
      exact record_zero _ x cap c w
    · obtain ⟨rfl, -, rfl⟩ := Value.slice.inj h1'
      subst hn
      exact record_same g o cap b p c l.length (rd l) w (by omega) hr (row_of h5') (broken_no l hb)

end Go.Proofs.Qxb6614942aDoor
