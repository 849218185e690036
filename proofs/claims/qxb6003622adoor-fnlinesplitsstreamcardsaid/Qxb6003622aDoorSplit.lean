/-
  THE PLAIN LAW: the lines of a text.
-/
import Derived.Test.Qxb6003622aDoorAny3
namespace Go.Proofs.Qxb6003622aDoor

/-- How many lines end from the place k on, and the place behind the last end. -/
def scan (l : List UInt8) (k w e : Nat) : Nat × Nat :=
  if h : k < l.length then
    if l[k] = 10 then scan l (k + 1) (w + 1) (k + 1)
    else if l[k] = 13 then (if l[k + 1]? = some 10 then scan l (k + 2) (w + 1) (k + 2) else scan l (k + 1) (w + 1) (k + 1))
    else scan l (k + 1) w e
  else (w, e)
termination_by l.length - k

theorem scan_end {l : List UInt8} {k w e : Nat} (h : l.length ≤ k) : scan l k w e = (w, e) := by
  rw [scan, dif_neg (by omega)]

theorem scan_lf {l : List UInt8} {k w e : Nat} (h : l[k]? = some 10) : scan l k w e = scan l (k + 1) (w + 1) (k + 1) := by
  obtain ⟨h1, h2⟩ := List.getElem?_eq_some_iff.1 h
  rw [scan, dif_pos h1, if_pos h2]

theorem scan_crlf {l : List UInt8} {k w e : Nat} (h : l[k]? = some 13) (h' : l[k + 1]? = some 10) : scan l k w e = scan l (k + 2) (w + 1) (k + 2) := by
  obtain ⟨h1, h2⟩ := List.getElem?_eq_some_iff.1 h
  rw [scan, dif_pos h1, if_neg (by rw [h2]; decide), if_pos h2, if_pos h']

theorem scan_cr {l : List UInt8} {k w e : Nat} (h : l[k]? = some 13) (h' : ¬ l[k + 1]? = some 10) : scan l k w e = scan l (k + 1) (w + 1) (k + 1) := by
  obtain ⟨h1, h2⟩ := List.getElem?_eq_some_iff.1 h
  rw [scan, dif_pos h1, if_neg (by rw [h2]; decide), if_pos h2, if_neg h']

theorem scan_skip {l : List UInt8} {k w e : Nat} {x : UInt8} (h : l[k]? = some x) (hx : isEnd x = false) : scan l k w e = scan l (k + 1) w e := by
  obtain ⟨h1, h2⟩ := List.getElem?_eq_some_iff.1 h
  have hx' : ¬ x = 13 ∧ ¬ x = 10 := by simpa [isEnd] using hx
  rw [scan, dif_pos h1, if_neg (by rw [h2]; exact hx'.2), if_neg (by rw [h2]; exact hx'.1)]

theorem scan_pass {l : List UInt8} {p w e : Nat} (s : Nat) (hs : p + s ≤ l.length) (h : NoEnd (l.drop p) s) : scan l p w e = scan l (p + s) w e := by
  induction s with
  | zero => rfl
  | succ s ih =>
    rw [ih (by omega) (fun j x hj => h j x (by omega))]
    have hlt : p + s < l.length := by omega
    exact scan_skip (x := l[p + s]) (by simp [hlt]) (h s _ (by omega) (by simp [List.getElem?_drop, hlt]))

end Go.Proofs.Qxb6003622aDoor
