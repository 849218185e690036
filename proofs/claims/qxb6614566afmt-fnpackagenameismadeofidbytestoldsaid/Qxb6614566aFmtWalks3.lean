/-
  THE WALKS (3): CheckID where the id is good; CheckName, whatever the name.
-/
import Derived.Test.Qxb6614566aFmtWalks2
namespace Go.Proofs.Qxb6614566aFmt
open Go.RowKit Go.Extern.Stop Go.Stop Go.Extern Go.Kit

attribute [local go_sem] Tryf.call14 Tryf.call16 Tryf.guard Tryf.fm1 Tryf.fm1r Tryf.fm1z Tryf.fm1zr Tryf.fm2 Tryf.fm2r Tryf.fm2z Tryf.fm2zr Tryf.fm3 Tryf.fm3r Tryf.fm3z Tryf.fm3zr Tryf.fm4 Tryf.fm4r Tryf.fm4z Tryf.fm4zr Tryf.fm5 Tryf.fm5r Tryf.fm5z Tryf.fm5zr Tryf.fm6 Tryf.fm6r Tryf.fm6z Tryf.fm6zr Tryf.op9_113 Tryf.op9_113w Tryf.op9_115w Tryf.strict9 Tryf.ptr39 Tryf.elem39 Tryf.isError39 Tryf.ptr34 Tryf.elem34 Tryf.isError34

set_option maxHeartbeats 400000 in
theorem checkID_good (s : ByteArray) (w : World) (h : Pl.idOK s.data.toList = true) :
    Calls Tryf.prog 7 #[.string s] w fun e w' => e = .returned .nilIface ∧ w' = w := by
  unfold Pl.idOK at h
  simp only [Bool.and_eq_true, Bool.not_eq_true', decide_eq_true_eq] at h
  obtain ⟨⟨he, hl⟩, ha⟩ := h
  have h0 : s.toList.isEmpty = false := by rw [isEmpty_list]; exact he
  have hl' : s.size ≤ 128 := by simpa using hl
  have hl2 : (s.size : Int) ≤ 128 := by omega
  have hm : s.size ≤ maxLen := by unfold maxLen; omega
  clear hl he
  go_enter Tryf.func7, Tryf.ntmps7
  go_wp2_with (go_at_call 12; refine (every_id _ _ hm).mono ?_; rintro e w' ⟨rfl, rfl⟩)
  go_ret
  exact ⟨rfl, rfl⟩

set_option maxHeartbeats 400000 in
theorem errorf1 (F : Interp) (nm : ByteArray) (b : Nat) (w : World) (hF : F.answers w.tape) (hc : w.cell? ⟨b, 0, none⟩ = some (.iface 9 (.string nm))) :
    Calls Tryf.prog 9 #[.string ⟨#[105, 110, 118, 97, 108, 105, 100, 32, 112, 97, 99, 107, 97, 103, 101, 32, 110, 97, 109, 101, 32, 37, 113, 58, 32, 109, 111, 114, 101, 32, 116, 104, 97, 110, 32, 116, 119, 111, 32, 115, 101, 103, 109, 101, 110, 116, 115]⟩, .slice (some ⟨b, 0, none⟩) 1 1] w fun e w' => (∃ a, e = .returned (.iface 39 (.pointer (some a)))) ∧ Below w.heap.size w w' := by
  have hF' := answers_open hF
  go_enter Tryf.func9, Tryf.ntmps9
  go_wp2
  go_ret
  exact ⟨⟨_, rfl⟩, ((Below.refl _ _).alloc (Nat.le_refl _) _).drew⟩

set_option maxHeartbeats 400000 in
theorem errorf2 (F : Interp) (nm rs : ByteArray) (b : Nat) (w : World) (hF : F.answers w.tape) (hc : w.cell? ⟨b, 0, none⟩ = some (.iface 9 (.string nm))) (hd : w.cell? ⟨b, 1, none⟩ = some (.iface 9 (.string rs))) :
    Calls Tryf.prog 9 #[.string ⟨#[105, 110, 118, 97, 108, 105, 100, 32, 112, 97, 99, 107, 97, 103, 101, 32, 110, 97, 109, 101, 32, 37, 113, 58, 32, 37, 115]⟩, .slice (some ⟨b, 0, none⟩) 2 2] w fun e w' => (∃ a, e = .returned (.iface 39 (.pointer (some a)))) ∧ Below w.heap.size w w' := by
  have hF' := answers_open hF
  go_enter Tryf.func9, Tryf.ntmps9
  go_wp2
  go_ret
  exact ⟨⟨_, rfl⟩, ((Below.refl _ _).alloc (Nat.le_refl _) _).drew⟩

set_option maxHeartbeats 400000 in
theorem name_many (F : Interp) (s : ByteArray) (w : World) (hF : F.answers w.tape) (hsh : w.ShapedOpen Tryf.prog) (hs : s.size ≤ 1048576) (hc : 1 < (Lib.countB s ⟨#[47]⟩ : Int)) :
    Calls Tryf.prog 5 #[.string s] w fun e w' => (∃ a, e = .returned (.iface 39 (.pointer (some a)))) ∧ Below w.heap.size w w' := by
  have hlt : s.size < 4294967281 := by omega
  go_enter Tryf.func5, Tryf.ntmps5
  go_wp2_with (first | (go_at_call 8; refine (Tryf.strings_Split_shaped _ _ _ hsh hlt (by decide)).mono ?_; rintro e w' ⟨rfl, rfl⟩) | (go_at_call 9; refine (errorf1 F s _ _ (by exact hF) (by go_simp)).mono ?_; rintro e w' ⟨⟨a, rfl⟩, hb⟩))
  go_ret
  exact ⟨⟨_, rfl⟩, ((((Below.refl _ _).alloc (Nat.le_refl _) _).alloc (by simp) _).trans (hb.mono (by simp; omega)))⟩

set_option maxHeartbeats 400000 in
theorem name_few (F : Interp) (s : ByteArray) (ps : List ByteArray) (n : Nat) (w : World) (hF : F.told.answers w.tape) (hsh : w.ShapedOpen Tryf.prog) (hs : s.size ≤ 1048576)
    (hn : Lib.countB s ⟨#[47]⟩ + 1 = n) (hps : Lib.splitB ⟨#[47]⟩ 0 (Lib.countB s ⟨#[47]⟩) s = ps) (hpl : ps.length = n) (hc : (n : Int) ≤ 2) :
    Calls Tryf.prog 5 #[.string s] w fun e w' => ((ps.all fun p => Pl.segOK p.data.toList) = true → e = .returned .nilIface) ∧ ((ps.all fun p => Pl.segOK p.data.toList) = false → ∃ a, e = .returned (.iface 39 (.pointer (some a)))) ∧ Below w.heap.size w w' := by
  have hlt : s.size < 4294967281 := by omega
  have hsp := Tryf.strings_Split_shaped s ⟨#[47]⟩ w hsh hlt (by decide)
  rw [hn, hps] at hsp
  have hd2 : decide (2 < (n : Int)) = false := by simp; omega
  have HN := hide hn
  have HP := hide hps
  have HL := hide hpl
  clear hn hps hpl
  go_enter Tryf.func5, Tryf.ntmps5
  go_wp2_with (go_at_call 8; refine hsp.mono ?_; rintro e w' ⟨rfl, rfl⟩)
  go_loopw [18] (fun i wr => ∃ k : Nat, k ≤ n ∧ i = .int .i64 k ∧ ((ps.take k).all fun p => Pl.segOK p.data.toList) = true ∧ Below (w.heap.size + 1) (w.alloc (.cells (ps.map Value.string).toArray 9)) wr) (fun i _ => n - (intOf i).toNat)
  case atStart => exact ⟨0, Nat.zero_le _, rfl, rfl, Below.refl _ _⟩
  case round =>
    obtain ⟨k, hk, rfl, ht, hb⟩ := hrel
    have HT := hide ht
    clear ht
    have hFr : F.told.answers wr.tape := by rw [hb.tape]; exact hF
    by_cases hkn : k < n
    · have hkl : k < ps.length := by rw [unhide HL]; exact hkn
      have hcell : wr.cell? ⟨w.heap.size, k, none⟩ = some (.string ps[k]) := by
        rw [hb.cell (p := ⟨w.heap.size, k, none⟩) (by simp)]
        simp [hkl]
      cases hso : Pl.segOK ps[k].data.toList
      · go_wp2_with (first | (go_at_call 10; refine (checkSegment_any F _ _ (by exact hFr)).mono ?_; rintro e w2 ⟨r, rfl, hr0, hb2⟩; have hr : r.toList.isEmpty = false := hr0.trans hso; clear hr0) | (go_at_call 9; refine (errorf2 F.told s r _ _ (by show F.told.answers w2.tape; rw [hb2.tape]; exact hFr) (by go_simp) (by go_simp)).mono ?_; rintro e w3 ⟨⟨a, rfl⟩, hb3⟩))
        go_ret
        refine ⟨fun h => ?_, fun _ => ⟨_, rfl⟩, ?_⟩
        · rw [List.all_eq_true] at h
          have := h ps[k] (List.getElem_mem _)
          rw [hso] at this; cases this
        · have hz : w.heap.size + 1 ≤ wr.heap.size := by have := hb.size; simpa using this
          have hz2 := hb2.size
          have b1 : Below w.heap.size w wr := ((Below.refl _ w).alloc (Nat.le_refl _) _).trans (hb.mono (by omega))
          have b2 : Below w.heap.size w w2 := b1.trans (hb2.mono (by omega))
          exact (b2.alloc (by omega) _).trans (hb3.mono (by simp; omega))
      · go_wp2_with (go_at_call 10; refine (checkSegment_any F _ _ (by exact hFr)).mono ?_; rintro e w2 ⟨r, rfl, hr0, hb2⟩; have hr : r.toList.isEmpty = true := hr0.trans hso; clear hr0)
        refine ⟨⟨k + 1, by omega, by go_num, ?_, ?_⟩, by simp [intOf]; omega⟩
        · rw [List.take_succ_eq_append_getElem hkl, List.all_append, unhide HT]; simp [hso]
        · have hz : w.heap.size + 1 ≤ wr.heap.size := by have := hb.size; simpa using this
          exact hb.trans (hb2.mono hz)
    · go_wp2
      go_ret
      have e : ps.take k = ps := List.take_of_length_le (by rw [unhide HL]; omega)
      have h2 := unhide HT
      rw [e] at h2
      refine ⟨fun _ => rfl, fun h => ?_, ?_⟩
      · rw [h2] at h; cases h
      · exact ((Below.refl _ w).alloc (Nat.le_refl _) _).trans (hb.mono (by omega))

theorem all_pieces (s : ByteArray) (k : Nat) : ((Lib.splitB ⟨#[47]⟩ 0 k s).all fun p => Pl.segOK p.data.toList) = (Lib.splitK [47] 0 k s.data.toList).all Pl.segOK := by
  have h := Lib.splitB_data ⟨#[47]⟩ 0 k s
  rw [show (⟨#[47]⟩ : ByteArray).data.toList = [47] from rfl] at h
  rw [← h, List.all_map]
  rfl

/-- CheckName, whatever the name: nil just where it is one. -/
theorem checkName_any (F : Interp) (s : ByteArray) (w : World) (hF : F.told.answers w.tape) (hsh : w.ShapedOpen Tryf.prog) (hs : s.size ≤ 1048576) :
    Calls Tryf.prog 5 #[.string s] w fun e w' => (Pl.nameOK s.data.toList = true → e = .returned .nilIface) ∧ (Pl.nameOK s.data.toList = false → ∃ a, e = .returned (.iface 39 (.pointer (some a)))) ∧ Below w.heap.size w w' := by
  have hcb : Lib.countB s ⟨#[47]⟩ = Lib.count s.data.toList [47] := rfl
  by_cases hc : Lib.countB s ⟨#[47]⟩ ≤ 1
  · have hd : decide (Lib.count s.data.toList [47] ≤ 1) = true := by rw [← hcb]; simpa using hc
    refine (name_few F s _ _ w hF hsh hs rfl rfl (Lib.splitB_all _ (by decide) 0 _ s rfl) (by omega)).mono ?_
    rintro e w' ⟨h1, h2, h3⟩
    rw [all_pieces] at h1 h2
    unfold Pl.nameOK
    rw [hd, Bool.true_and]
    exact ⟨h1, h2, h3⟩
  · have hd : decide (Lib.count s.data.toList [47] ≤ 1) = false := by rw [← hcb]; simpa using hc
    refine (name_many F.told s w hF hsh hs (by omega)).mono ?_
    rintro e w' ⟨h1, h2⟩
    unfold Pl.nameOK
    rw [hd, Bool.false_and]
    exact ⟨fun h => (by cases h), fun _ => h1, h2⟩

end Go.Proofs.Qxb6614566aFmt
