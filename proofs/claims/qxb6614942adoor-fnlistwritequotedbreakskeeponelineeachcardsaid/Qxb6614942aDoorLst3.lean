/-
  THE WALKS (list 3): Buffer.Bytes, ZZsinkBytes, ZZnewList, List.End.
-/
import Derived.Test.Qxb6614942aDoorLst2
import Derived.BigQuiet
namespace Go.Proofs.Qxb6614942aDoor
open Go.RowKit

attribute [local go_sem] Go.wp_at_zero Go.wp_at_succ

theorem bytes_nil (b : Nat) (w : World) (h0 : w.cell? ⟨b, 0, none⟩ = some (.slice none 0 0)) (h1 : w.cell? ⟨b, 1, none⟩ = some (.int .i64 0)) :
    Calls Tryd.prog 24 #[.pointer (some ⟨b, 0, none⟩)] w fun e w' => e = .returned (.slice none 0 0) ∧ ∃ q, w' = w.drewN q := by
  go_enter Tryd.func24, Tryd.ntmps24
  go_wp2
  go_quiet (fail)
  go_wp2
  go_ret
  exact ⟨rfl, _, rfl⟩

theorem bytes_row (b g n c : Nat) (w : World) (h0 : w.cell? ⟨b, 0, none⟩ = some (.slice (some ⟨g, 0, none⟩) n c)) (h1 : w.cell? ⟨b, 1, none⟩ = some (.int .i64 0)) :
    Calls Tryd.prog 24 #[.pointer (some ⟨b, 0, none⟩)] w fun e w' => e = .returned (.slice (some ⟨g, 0, none⟩) n c) ∧ ∃ q, w' = w.drewN q := by
  go_enter Tryd.func24, Tryd.ntmps24
  go_wp2
  go_quiet (fail)
  go_wp2
  go_ret
  exact ⟨rfl, _, rfl⟩

theorem drewN_below {B q : Nat} (w : World) : Below B w (w.drewN q) := ⟨rfl, rfl, rfl, Nat.le_refl _, fun _ _ => rfl⟩

/-- ZZsinkBytes: flush, then the buffer's bytes. -/
theorem sinkBytes_any (KP : Option (Nat × Obj)) (B bb bw bf : Nat) (out : List Value) (w : World) (h : Holds KP B bb bw bf out w) (hlim : out.length ≤ 140737488355328) :
    Calls Tryd.prog 10 #[.pointer (some ⟨bw, 0, none⟩), .pointer (some ⟨bb, 0, none⟩)] w fun e w' => ∃ v, e = .returned v ∧ w'.ownsRow B 5 1 v out.length out ∧ Below B w w' := by
  have H := Lib.hid h
  clear h
  go_enter Tryd.func10, Tryd.ntmps10
  go_wp2_with (go_at_call 23; refine (flush_holds KP B bb bw bf out w H.out hlim).mono ?_; rintro e w1 ⟨rfl, gO, hs, hb⟩)
  obtain ⟨hB, v, lr, hbk, hown, hv, hne⟩ := hs.buf
  have hown' := hown
  have h1 : w1.cell? ⟨bb, 1, none⟩ = some (.int .i64 0) := by rw [Lib.cell_of_heap hbk]; rfl
  have h0 : w1.cell? ⟨bb, 0, none⟩ = some v := by rw [Lib.cell_of_heap hbk]; rfl
  have HO := Lib.hid hown
  have HB := Lib.hid hb
  rcases hown.2 with ⟨rfl, hz⟩ | ⟨g, cap, cur, rfl, hBg, hg, hnc, hcm, hcs, htk⟩
  · clear hs hbk hown hown' hne hB hb hv
    go_wp2_with (go_at_call 24; refine (bytes_nil bb w1 h0 h1).mono ?_; rintro e w2 ⟨rfl, q, rfl⟩)
    go_ret
    exact ⟨_, rfl, ownsRow_later HO.out (drewN_below w1), HB.out.trans (drewN_below w1)⟩
  · clear hs hbk hown hown' hne hB hb hv hg hcs htk hBg
    go_wp2_with (go_at_call 24; refine (bytes_row bb g out.length cap w1 h0 h1).mono ?_; rintro e w2 ⟨rfl, q, rfl⟩)
    go_ret
    exact ⟨_, rfl, ownsRow_later HO.out (drewN_below w1), HB.out.trans (drewN_below w1)⟩

theorem newList_any (e : Int) (q : Bool) (w : World) :
    Calls Tryd.prog 7 #[.int .u8 e, .bool q] w fun x w' => x = .returned (.agg #[.int .u8 e, .bool q]) ∧ w'.heap.size = w.heap.size + 1 ∧ Below w.heap.size w w' := by
  go_enter Tryd.func7, Tryd.ntmps7
  go_wp2
  refine bodyPost_ret (v := .agg #[.int .u8 e, .bool q]) (by simp [results, Tryd.results7, go_sem]) rfl ⟨rfl, by simp, (Below.refl _ w).alloc (Nat.le_refl _) _⟩

theorem end_any (e : Int) (q : Bool) (w : World) :
    Calls Tryd.prog 11 #[.agg #[.int .u8 e, .bool q]] w fun x w' => x = .returned (.int .u8 e) ∧ w' = w.alloc (.cells #[.int .u8 e, .bool q] 26) := by
  go_enter Tryd.func11, Tryd.ntmps11
  go_wp2
  go_ret
  exact ⟨rfl, rfl⟩

end Go.Proofs.Qxb6614942aDoor
