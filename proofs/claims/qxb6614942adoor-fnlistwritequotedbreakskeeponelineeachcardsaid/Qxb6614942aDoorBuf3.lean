/-
  THE WALKS (buffer 3): (*bytes.Buffer).Write of at least one byte, WriteString of at least one byte: what the buffer holds behind it, its row's block, the whole frame.
-/
import Derived.Test.Qxb6614942aDoorBuf2
namespace Go.Proofs.Qxb6614942aDoor
open Go.RowKit

theorem info5 : (Tryd.prog.info? 5).map (·.size) = some 1 := by kernel_rfl

set_option maxHeartbeats 1600000 in
set_option maxRecDepth 100000 in
theorem bufWrite (B b : Nat) (gO : Option Nat) (bs cs : List Value) (a : Addr) (n c : Nat) (w : World) (h : Buf B b gO bs w) (hBw : B ≤ w.heap.size) (h1 : ∀ v ∈ bs, v.oneCell' = true)
    (hn : cs.length = n) (hn1 : 1 ≤ n) (hab : a.block ≠ b) (hsrc : ∀ j v, cs[j]? = some v → w.cell? (a.add j) = some v) (h1c : ∀ v ∈ cs, v.oneCell' = true) (hlim : bs.length + n ≤ 140737488355328) :
    Calls Tryd.prog 58 #[.pointer (some ⟨b, 0, none⟩), .slice (some a) n c] w fun e w' => e = .returned (.tuple #[.int .i64 n, .nilIface]) ∧ ∃ gO', Buf B b gO' (bs ++ cs) w' ∧ (gO' = gO ∨ gO' = some w.heap.size) ∧ Two b gO w w' := by
  obtain ⟨hB, v0, lr, hbk, -, -, -⟩ := id h
  have hbw := Lib.lt_of_heap hbk
  have c2 : w.cell? ⟨b, 2, none⟩ = some (.int .i8 lr) := by rw [Lib.cell_of_heap hbk]; rfl
  have f2 : w.frozen? ⟨b, 2, none⟩ = false := Lib.frozen_of_heap hbk 2
  have h' := h.setLast 0
  have hg0 : w.grownBy (w.setCell ⟨b, 2, none⟩ (.int .i8 0)) (some b) := Lib.grownBy_setCell w b 2 _
  have hsz0 : (w.setCell ⟨b, 2, none⟩ (.int .i8 0)).heap.size = w.heap.size := by simp [World.setCell]
  have HZ := Lib.hid hsz0
  have hBw' : B ≤ (w.setCell ⟨b, 2, none⟩ (.int .i8 0)).heap.size := by rw [hsz0]; exact hBw
  clear hbk v0 hsz0
  have HN := Lib.hid hn
  clear hn
  go_enter Tryd.func58, Tryd.ntmps58
  go_wp2_with (go_at_call 60; refine (tryGrow_any B b n gO bs _ ?_).mono ?_)
  · exact h'
  rintro e W1 (⟨rfl, xs, hxl, hI, hg⟩ | ⟨rfl, rfl, hnr⟩)
  · have hgW := Lib.grownBy_trans hg0 hg
    clear h' hBw' c2 f2 hg hg0
    obtain ⟨-, lr2, hc⟩ := hI.cases
    rcases hc with ⟨-, hnil, -⟩ | ⟨g, cap, cur, hgO, hbk2, hBg, hg, hnc, hcm, hcs, htk, hgb⟩
    · exact absurd (congrArg List.length hnil) (by rw [List.length_append, hxl, List.length_nil]; omega)
    · rw [List.length_append, hxl] at hbk2 hnc htk
      have d0 : W1.cell? ⟨b, 0, none⟩ = some (.slice (some ⟨g, 0, none⟩) (bs.length + n) cap) := by rw [Lib.cell_of_heap hbk2]; rfl
      have hne : ¬ cap = bs.length := by omega
      have hsrc1 : ∀ j v, cs[j]? = some v → W1.cell? (a.add j) = some v := fun j v hj => hgW.cell (hsrc j v hj) (by rw [Lib.block_add]; exact fun e => hab (Option.some.inj e))
      have hcp := run_copy_row (P := Tryd.prog) W1 22 22 3 5 g bs.length n (cap - bs.length) a n c cur 5 cs Tryd.underlying22 info5 hg (by rw [HN.out]; exact (Nat.min_self n).symm) hsrc1 (by rw [HN.out]; omega) h1c
      rw [HN.out] at hcp
      have hcm' := hcm
      unfold maxLen at hcm'
      have hend := write_end (gO := gO) (bs := bs) (news := cs) (xs := xs) hB hgW (by rw [HN.out]; exact hbk2) hBg hg hcm hcs hgb (by rw [HN.out]; exact hnc) (by rw [HN.out]; exact hxl) (by rw [HN.out]; exact htk) (Or.inl hgO.symm)
      have HE := Lib.hid hend
      have HG := Lib.hid hgO
      clear hend hgO htk hxl hI
      go_wp2
      go_ret2
      have he := HE.out
      rw [HN.out, List.append_assoc] at he
      exact ⟨rfl, _, he.1, Or.inl HG.out.symm, he.2⟩
  · go_wp2_with (go_at_call 61; refine (grow_any B b n gO bs _ ?_ ?_ ?_ h1 hlim).mono ?_)
    · exact h'
    · exact hnr
    · exact hBw'
    rintro e W1 ⟨rfl, xs, hxl, hI, hg⟩
    have hgW := Lib.grownBy_trans hg0 hg
    clear h' hBw' c2 f2 hg hg0 hnr
    rw [HZ.out] at hI
    obtain ⟨-, lr2, hc⟩ := hI.cases
    rcases hc with ⟨-, hnil, -⟩ | ⟨g, cap, cur, hgO, hbk2, hBg, hg, hnc, hcm, hcs, htk, hgb⟩
    · exact absurd (congrArg List.length hnil) (by rw [List.length_append, hxl, List.length_nil]; omega)
    · rw [List.length_append, hxl] at hbk2 hnc htk
      have d0 : W1.cell? ⟨b, 0, none⟩ = some (.slice (some ⟨g, 0, none⟩) (bs.length + n) cap) := by rw [Lib.cell_of_heap hbk2]; rfl
      have hne : ¬ cap = bs.length := by omega
      have hsrc1 : ∀ j v, cs[j]? = some v → W1.cell? (a.add j) = some v := fun j v hj => hgW.cell (hsrc j v hj) (by rw [Lib.block_add]; exact fun e => hab (Option.some.inj e))
      have hcp := run_copy_row (P := Tryd.prog) W1 22 22 3 5 g bs.length n (cap - bs.length) a n c cur 5 cs Tryd.underlying22 info5 hg (by rw [HN.out]; exact (Nat.min_self n).symm) hsrc1 (by rw [HN.out]; omega) h1c
      rw [HN.out] at hcp
      have hcm' := hcm
      unfold maxLen at hcm'
      have hgn : g = w.heap.size := (Option.some.inj hgO).symm
      have hend := write_end (gO := gO) (bs := bs) (news := cs) (xs := xs) hB hgW (by rw [HN.out]; exact hbk2) hBg hg hcm hcs hgb (by rw [HN.out]; exact hnc) (by rw [HN.out]; exact hxl) (by rw [HN.out]; exact htk) (Or.inr (by omega))
      have HE := Lib.hid hend
      have HG := Lib.hid hgO
      clear hend hgO htk hxl hI hgn
      go_wp2
      go_ret2
      have he := HE.out
      rw [HN.out, List.append_assoc] at he
      exact ⟨rfl, _, he.1, Or.inr HG.out.symm, he.2⟩

set_option maxHeartbeats 1600000 in
set_option maxRecDepth 100000 in
theorem bufWriteString (B b : Nat) (gO : Option Nat) (bs cs : List Value) (s : ByteArray) (n : Nat) (w : World) (h : Buf B b gO bs w) (hBw : B ≤ w.heap.size) (h1 : ∀ v ∈ bs, v.oneCell' = true)
    (hs : s.size = n) (hcs0 : Lib.byteCells s.data.toList = cs) (hn1 : 1 ≤ n) (hlim : bs.length + n ≤ 140737488355328) :
    Calls Tryd.prog 59 #[.pointer (some ⟨b, 0, none⟩), .string s] w fun e w' => e = .returned (.tuple #[.int .i64 n, .nilIface]) ∧ ∃ gO', Buf B b gO' (bs ++ cs) w' ∧ (gO' = gO ∨ gO' = some w.heap.size) ∧ Two b gO w w' := by
  obtain ⟨hB, v0, lr, hbk, -, -, -⟩ := id h
  have hbw := Lib.lt_of_heap hbk
  have c2 : w.cell? ⟨b, 2, none⟩ = some (.int .i8 lr) := by rw [Lib.cell_of_heap hbk]; rfl
  have f2 : w.frozen? ⟨b, 2, none⟩ = false := Lib.frozen_of_heap hbk 2
  have h' := h.setLast 0
  have hg0 : w.grownBy (w.setCell ⟨b, 2, none⟩ (.int .i8 0)) (some b) := Lib.grownBy_setCell w b 2 _
  have hsz0 : (w.setCell ⟨b, 2, none⟩ (.int .i8 0)).heap.size = w.heap.size := by simp [World.setCell]
  have HZ := Lib.hid hsz0
  have hBw' : B ≤ (w.setCell ⟨b, 2, none⟩ (.int .i8 0)).heap.size := by rw [hsz0]; exact hBw
  clear hbk v0 hsz0
  have hn : cs.length = n := by rw [← hcs0, Lib.byteCells_length, ← Lib.size_eq]; exact hs
  have HN := Lib.hid hn
  have HC := Lib.hid hcs0
  clear hn hcs0
  go_enter Tryd.func59, Tryd.ntmps59
  go_wp2_with (go_at_call 60; refine (tryGrow_any B b n gO bs _ ?_).mono ?_)
  · exact h'
  rintro e W1 (⟨rfl, xs, hxl, hI, hg⟩ | ⟨rfl, rfl, hnr⟩)
  · have hgW := Lib.grownBy_trans hg0 hg
    clear h' hBw' c2 f2 hg hg0
    obtain ⟨-, lr2, hc⟩ := hI.cases
    rcases hc with ⟨-, hnil, -⟩ | ⟨g, cap, cur, hgO, hbk2, hBg, hg, hnc, hcm, hcs, htk, hgb⟩
    · exact absurd (congrArg List.length hnil) (by rw [List.length_append, hxl, List.length_nil]; omega)
    · rw [List.length_append, hxl] at hbk2 hnc htk
      have d0 : W1.cell? ⟨b, 0, none⟩ = some (.slice (some ⟨g, 0, none⟩) (bs.length + n) cap) := by rw [Lib.cell_of_heap hbk2]; rfl
      have hne : ¬ cap = bs.length := by omega
      have hcp := Lib.run_copy_row_string (P := Tryd.prog) W1 22 9 3 5 g bs.length n (cap - bs.length) s cur 5 Tryd.underlying22 info5 hg (by omega) (by omega)
      rw [HC.out, hs] at hcp
      have hcm' := hcm
      unfold maxLen at hcm'
      have hend := write_end (gO := gO) (bs := bs) (news := cs) (xs := xs) hB hgW (by rw [HN.out]; exact hbk2) hBg hg hcm hcs hgb (by rw [HN.out]; exact hnc) (by rw [HN.out]; exact hxl) (by rw [HN.out]; exact htk) (Or.inl hgO.symm)
      have HE := Lib.hid hend
      have HG := Lib.hid hgO
      clear hend hgO htk hxl hI
      go_wp2
      go_ret2
      have he := HE.out
      rw [HN.out, List.append_assoc] at he
      exact ⟨rfl, _, he.1, Or.inl HG.out.symm, he.2⟩
  · go_wp2_with (go_at_call 61; refine (grow_any B b n gO bs _ ?_ ?_ ?_ h1 hlim).mono ?_)
    · exact h'
    · exact hnr
    · exact hBw'
    rintro e W1 ⟨rfl, xs, hxl, hI, hg⟩
    have hgW := Lib.grownBy_trans hg0 hg
    clear h' hBw' c2 f2 hg hg0 hnr
    rw [HZ.out] at hI
    obtain ⟨-, lr2, hc⟩ := hI.cases
    rcases hc with ⟨-, hnil, -⟩ | ⟨g, cap, cur, hgO, hbk2, hBg, hg, hnc, hcm, hcs, htk, hgb⟩
    · exact absurd (congrArg List.length hnil) (by rw [List.length_append, hxl, List.length_nil]; omega)
    · rw [List.length_append, hxl] at hbk2 hnc htk
      have d0 : W1.cell? ⟨b, 0, none⟩ = some (.slice (some ⟨g, 0, none⟩) (bs.length + n) cap) := by rw [Lib.cell_of_heap hbk2]; rfl
      have hne : ¬ cap = bs.length := by omega
      have hcp := Lib.run_copy_row_string (P := Tryd.prog) W1 22 9 3 5 g bs.length n (cap - bs.length) s cur 5 Tryd.underlying22 info5 hg (by omega) (by omega)
      rw [HC.out, hs] at hcp
      have hcm' := hcm
      unfold maxLen at hcm'
      have hgn : g = w.heap.size := (Option.some.inj hgO).symm
      have hend := write_end (gO := gO) (bs := bs) (news := cs) (xs := xs) hB hgW (by rw [HN.out]; exact hbk2) hBg hg hcm hcs hgb (by rw [HN.out]; exact hnc) (by rw [HN.out]; exact hxl) (by rw [HN.out]; exact htk) (Or.inr (by omega))
      have HE := Lib.hid hend
      have HG := Lib.hid hgO
      clear hend hgO htk hxl hI hgn
      go_wp2
      go_ret2
      have he := HE.out
      rw [HN.out, List.append_assoc] at he
      exact ⟨rfl, _, he.1, Or.inr HG.out.symm, he.2⟩

end Go.Proofs.Qxb6614942aDoor
