/-
  THE WALKS (sink 5): (*bufio.Writer).WriteString.
-/
import Derived.Test.Qxb6614942aDoorSnk4
namespace Go.Proofs.Qxb6614942aDoor
open Go.RowKit

attribute [local go_sem] Go.wp_at_zero Go.wp_at_succ

/-- 'copy(dst, s)', s a string that is no shorter than dst: dst is filled. -/
theorem run_copy_string_part {P : Program} (w : World) (dT sT ty elem : TypeId) (g o dLen dCap : Nat) (s : ByteArray) (cur : Array Value) (t : TypeId)
    (hu : P.underlying dT = some (.slice elem)) (hs : (P.info? elem).map (·.size) = some 1) (hg : w.heap[g]? = some (.cells cur t (0, 0))) (hle : dLen ≤ s.size) (hfit : o + dLen ≤ cur.size) :
    (Builtin.copy_ #[dT, sT] ty #[.slice (some ⟨g, o, none⟩) dLen dCap, .string s]).run P w =
      .ok (goInt dLen) (w.setRow g (cur.toList.take o ++ (Lib.byteCells s.data.toList).take dLen ++ cur.toList.drop (o + dLen)).toArray) := by
  have hlen : ((Lib.byteCells s.data.toList).take dLen).length = dLen := by rw [List.length_take, Lib.byteCells_length, ← Lib.size_eq]; omega
  have hst := run_storeCells_at P g o t ((Lib.byteCells s.data.toList).take dLen) 0 cur w hg (by rw [hlen]; simpa using hfit) (fun v hv => Lib.byteCells_one _ v (List.mem_of_mem_take hv))
  have hmin : Nat.min s.size dLen = dLen := Nat.min_eq_right hle
  have htk : List.take dLen (List.map (fun b : UInt8 => Value.int IntKind.u8 (b.toNat : Int)) s.data.toList) = (Lib.byteCells s.data.toList).take dLen := rfl
  rw [hlen] at hst
  simp only [Nat.add_zero] at hst
  cases hq : P.info? elem with
  | none => simp [hq] at hs
  | some i =>
    simp [Builtin.copy_, run_underlying hu, Builtin.lenOf, Builtin.firstCells, sizeOf, typeInfo, hq, hmin]
    rw [htk, hst]
    simp [Result.andThen]

/-- 'copy(b.buf[b.n:], s)', as the walk asks it. -/
theorem copy_facts_string {KP : Option (Nat × Obj)} {B bb bw bf n t m : Nat} {gO : Option Nat} {bs cs : List Value} {w : World} (h : Snk KP B bb bw bf gO bs cs w) (hn : cs.length = n) (hn4 : n < 4096) (s : ByteArray) (hs : s.size = m) (htm : t = min m (4096 - n)) :
    ∃ X : Array Value, (∀ q, (Builtin.copy_ #[22, 9] 3 #[.slice (some ⟨bf, n, none⟩) (4096 - n) (4096 - n), .string s]).run Tryd.prog (w.drewN q) = .ok (.int .i64 t) ((w.drewN q).setRow bf X)) ∧
      (∀ q, ((w.drewN q).setRow bf X).cell? ⟨bw, 1, none⟩ = some (.slice (some ⟨bf, 0, none⟩) 4096 4096)) ∧ (∀ q, ((w.drewN q).setRow bf X).cell? ⟨bw, 2, none⟩ = some (.int .i64 n)) ∧ (∀ q, ((w.drewN q).setRow bf X).frozen? ⟨bw, 2, none⟩ = false) ∧
      ∀ q, Snk KP B bb bw bf gO bs (cs ++ (Lib.byteCells s.data.toList).take t) (((w.drewN q).setRow bf X).setCell ⟨bw, 2, none⟩ (.int .i64 (n + t : Nat))) ∧ Below B w (((w.drewN q).setRow bf X).setCell ⟨bw, 2, none⟩ (.int .i64 (n + t : Nat))) := by
  obtain ⟨ar, har, hars, hart⟩ := h.arr
  have hbl : (Lib.byteCells s.data.toList).length = m := by rw [Lib.byteCells_length, ← Lib.size_eq]; exact hs
  have hlen : ((Lib.byteCells s.data.toList).take t).length = t := by rw [List.length_take, hbl]; omega
  refine ⟨(ar.toList.take n ++ (Lib.byteCells s.data.toList).take t ++ ar.toList.drop (n + t)).toArray, fun q => ?_, fun q => ?_, fun q => ?_, fun q => ?_, fun q => ?_⟩
  · by_cases hle : 4096 - n ≤ m
    · obtain rfl : t = 4096 - n := by omega
      exact run_copy_string_part (P := Tryd.prog) (w.drewN q) 22 9 3 5 bf n (4096 - n) (4096 - n) s ar 5 Tryd.underlying22 info5 har (by omega) (by rw [hars]; omega)
    · obtain rfl : t = m := by omega
      have hc := Lib.run_copy_row_string (P := Tryd.prog) (w.drewN q) 22 9 3 5 bf n (4096 - n) (4096 - n) s ar 5 Tryd.underlying22 info5 har (by omega) (by rw [hars]; omega)
      rw [hs] at hc
      have e : (Lib.byteCells s.data.toList).take t = Lib.byteCells s.data.toList := List.take_of_length_le (by rw [hbl]; exact Nat.le_refl _)
      rw [e]
      exact hc
  · have e : ((w.drewN q).setRow bf (ar.toList.take n ++ (Lib.byteCells s.data.toList).take t ++ ar.toList.drop (n + t)).toArray).heap[bw]? = _ := (setRow_other _ _ _ _ h.n3).trans h.wr
    rw [Lib.cell_of_heap e]; rfl
  · have e : ((w.drewN q).setRow bf (ar.toList.take n ++ (Lib.byteCells s.data.toList).take t ++ ar.toList.drop (n + t)).toArray).heap[bw]? = _ := (setRow_other _ _ _ _ h.n3).trans h.wr
    rw [Lib.cell_of_heap e, hn]; rfl
  · have e : ((w.drewN q).setRow bf (ar.toList.take n ++ (Lib.byteCells s.data.toList).take t ++ ar.toList.drop (n + t)).toArray).heap[bw]? = _ := (setRow_other _ _ _ _ h.n3).trans h.wr
    exact Lib.frozen_of_heap e 2
  · have hf := (h.of_heap (w' := w.drewN q) rfl).filled (news := (Lib.byteCells s.data.toList).take t) har (by rw [hn, hlen]; omega) (fun v hv => Lib.byteCells_one _ v (List.mem_of_mem_take hv))
    rw [hn, hlen] at hf
    exact ⟨hf.1, ⟨hf.2.os, hf.2.tape, hf.2.output, hf.2.size, hf.2.block⟩⟩

theorem assert_writer (a : Addr) (w : World) : (Instr.typeAssert (.iface 29 (.pointer (some a))) 55 58 true).run Tryd.prog w = .ok (.tuple #[.iface 29 (.pointer (some a)), .bool true]) w := by kernel_rfl

theorem ext_drop (s : ByteArray) (t m : Nat) (h : s.size = m) : (s.extract t m).data.toList = s.data.toList.drop t := by
  subst h
  exact Lib.extract_to_end s t

theorem copy_none_string (w : World) (d : Option Addr) (s : ByteArray) : (Builtin.copy_ #[22, 9] 3 #[.slice d 0 0, .string s]).run Tryd.prog w = .ok (.int .i64 0) w := by
  cases hq : Tryd.prog.info? 5 with
  | none => have := info5; simp [hq] at this
  | some i =>
    cases d <;> simp [Builtin.copy_, run_underlying Tryd.underlying22, Builtin.lenOf, Builtin.firstCells, sizeOf, typeInfo, hq, storeCells] <;> rfl

theorem cells_drop (l : List UInt8) (k : Nat) : Lib.byteCells (l.drop k) = (Lib.byteCells l).drop k := by
  unfold Lib.byteCells
  rw [List.map_drop]

set_option maxHeartbeats 1000000 in
set_option maxRecDepth 100000 in
theorem writeString_any (KP : Option (Nat × Obj)) (B bb bw bf : Nat) (out : List Value) (s : ByteArray) (N : Nat) (w : World) (h : Holds KP B bb bw bf out w) (hN : s.size = N) (hlim : out.length + N ≤ 140737488355328) :
    Calls Tryd.prog 19 #[.pointer (some ⟨bw, 0, none⟩), .string s] w fun e w' => e = .returned (.tuple #[.int .i64 N, .nilIface]) ∧ Holds KP B bb bw bf (out ++ Lib.byteCells s.data.toList) w' ∧ Below B w w' := by
  obtain ⟨gO, bs, cs, hs, hout⟩ := h
  have HS := Lib.hid hs
  have HO := Lib.hid hout
  have HN := Lib.hid hN
  clear hs hout hN
  go_enter Tryd.func19, Tryd.ntmps19
  go_wp2
  go_loopg [1, 6, 7, 8] (2 * N + 1) (fun gk p sw ty nn wr => ∃ (k m : Nat) (s' : ByteArray) (x : Value) (gO' : Option Nat) (bs' cs' : List Value), p = .string s' ∧ sw = x ∧ ty = .bool true ∧ nn = .int .i64 k ∧ k + m ≤ 140737488355328 ∧
    Hid (k + m = N ∧ s'.size = m ∧ s'.data.toList = s.data.toList.drop k ∧ (x = .nilIface ∨ m = 0) ∧ Snk KP B bb bw bf gO' bs' cs' wr ∧ bs' ++ cs' ++ (Lib.byteCells s.data.toList).drop k = out ++ Lib.byteCells s.data.toList ∧ Below B w wr ∧ 2 * m + (if cs'.length = 0 then 0 else 1) ≤ gk))
  case atStart => exact ⟨0, N, s, .nilIface, gO, bs, cs, rfl, rfl, rfl, rfl, by omega, ⟨by omega, HN.out, by simp, Or.inl rfl, HS.out, by rw [HO.out, List.drop_zero], Below.refl _ _, by split <;> omega⟩⟩
  case round =>
    obtain ⟨k, m, s', x, gO', bs', cs', rfl, rfl, rfl, rfl, hk, HR⟩ := hrel
    obtain ⟨hkm, hsz, hsd, hx, hsn, hcat, hbel, hgk⟩ := HR.out
    obtain ⟨h0, h1, h2, h3, f0, f2⟩ := hsn.cells
    have hl := hsn.len
    have hne := hsn.n3
    have hne' : bf ≠ bw := Ne.symm hne
    obtain ⟨n, hcn⟩ : ∃ n, cs'.length = n := ⟨_, rfl⟩
    have hcp := fun (hn4 : n < 4096) (t : Nat) (ht : t = min m (4096 - n)) => copy_facts_string (t := t) (m := m) hsn hcn hn4 s' hsz ht
    have HSn := Lib.hid hsn
    have HC := Lib.hid hcn
    have HP := Lib.hid hcp
    have HX := Lib.hid hx
    rw [hcn] at h2 hl
    clear hsn hcn hcp hkm hcat hbel hgk hsd hx
    by_cases hroom : (m : Int) ≤ 4096 - (n : Int)
    · have hd : decide (4096 - (n : Int) < (m : Int)) = false := by simp; omega
      by_cases hn4 : n < 4096
      · obtain ⟨X, hX, hc1, hc2, hfz, hend⟩ := HP.out hn4 m (by omega)
        have HE := Lib.hid hend
        clear hend
        have hi1 : (0 : Int) ≤ (n : Int) := by omega
        have hi2 : (n : Int) ≤ 4096 := by omega
        have hi3 : ¬ (4096 : Nat) = n := by omega
        go_wp2_with (go_at_call 27; refine (available_any bw bf n _ h1 h2 hl).mono ?_; rintro e w' ⟨rfl, nq, rfl⟩)
        go_region_held3 (fun w' => w'.cell? ⟨bw, 1, none⟩ = some (.slice (some ⟨bf, 0, none⟩) 4096 4096) ∧ w'.cell? ⟨bw, 2, none⟩ = some (.int .i64 n)) (go_keep) (fail)
        all_goals
          go_wp2
          go_ret2
          obtain ⟨hkm, hsz, hsd, hx, hsn, hcat, hbel, hgk⟩ := HR.out
          obtain ⟨e1, e2⟩ := HE.out (nq + 1)
          rw [show ((n + m : Nat) : Int) = (n : Int) + (m : Int) from by omega] at e1 e2
          refine ⟨ret_two (by omega), ⟨gO', bs', _, e1, ?_⟩, hbel.trans e2⟩
          rw [hsd, cells_drop, List.take_of_length_le (by rw [List.length_drop, Lib.byteCells_length, ← Lib.size_eq, HN.out]; omega), ← List.append_assoc]
          exact hcat
      · obtain rfl : n = 4096 := by omega
        have hm0 : s'.size = 0 := by omega
        have hcz : ∀ q, (Builtin.copy_ #[22, 9] 3 #[.slice (some ⟨bf, 0, none⟩) 0 0, .string s']).run Tryd.prog (wr.drewN q) = .ok (.int .i64 0) (wr.drewN q) := fun q => Lib.run_copy_empty_string (wr.drewN q) 22 9 3 5 _ 0 0 s' Tryd.underlying22 (by rw [info5]; rfl) hm0
        have HM := Lib.hid hm0
        clear hm0
        go_wp2_with (go_at_call 27; refine (available_any bw bf 4096 _ h1 h2 hl).mono ?_; rintro e w' ⟨rfl, nq, rfl⟩)
        go_region_held3 (fun w' => w'.cell? ⟨bw, 1, none⟩ = some (.slice (some ⟨bf, 0, none⟩) 4096 4096) ∧ w'.cell? ⟨bw, 2, none⟩ = some (.int .i64 ((4096 : Nat) : Int))) (go_keep) (fail)
        all_goals
          go_wp2
          go_ret2
          obtain ⟨hkm, hsz, hsd, hx, hsn, hcat, hbel, hgk⟩ := HR.out
          obtain ⟨e1, e2⟩ := (hsn.of_heap (w' := wr.drewN (nq + 1)) rfl).renum HC.out
          have hdn : (Lib.byteCells s.data.toList).drop k = [] := List.drop_eq_nil_of_le (by rw [Lib.byteCells_length, ← Lib.size_eq, HN.out]; omega)
          refine ⟨ret_two (by omega), ⟨gO', bs', cs', e1, ?_⟩, hbel.trans (below_drewN' e2)⟩
          rw [hdn, List.append_nil] at hcat
          exact hcat
    · have hd : decide (4096 - (n : Int) < (m : Int)) = true := by simp; omega
      obtain rfl : u6 = Value.nilIface := by
        rcases HX.out with e | e
        · exact e
        · omega
      by_cases hn0 : n = 0
      · subst hn0
        obtain rfl : cs' = [] := List.eq_nil_of_length_eq_zero HC.out
        have hm := method_WriteString ⟨bb, 0, none⟩
        have hlb : bs'.length + m ≤ 140737488355328 := by
          have hcat := HR.out.2.2.2.2.2.1
          have := congrArg List.length hcat
          simp only [List.length_append, List.length_nil, List.length_drop, Lib.byteCells_length, ← Lib.size_eq, HN.out] at this
          have := HR.out.1
          omega
        have hta := assert_writer ⟨bb, 0, none⟩
        go_wp2_with (first | (go_at_call 27; refine (available_any bw bf 0 _ h1 h2 hl).mono ?_; rintro e w' ⟨rfl, nq, rfl⟩) | (go_at_call 28; refine (buffered_any bw 0 _ (by exact h2)).mono ?_; rintro e w' ⟨rfl, rfl⟩) | (go_at_call 59; refine (bufWriteString B bb gO' bs' (Lib.byteCells s'.data.toList) s' m _ (by exact HSn.out.buf.of_heap rfl) (by exact HSn.out.size) HSn.out.one hsz rfl (by omega) hlb).mono ?_; rintro e w2 ⟨rfl, gO2, hb2, hg2, ht2⟩; have d0 : w2.cell? ⟨bw, 0, none⟩ = some .nilIface := (World.cell?_of_block (a := ⟨bw, 0, none⟩) (ht2.block bw (Lib.lt_of_heap HSn.out.wr) (Ne.symm HSn.out.n1) (fun e => HSn.out.g1 e.symm))).trans h0; have e0 : w2.frozen? ⟨bw, 0, none⟩ = false := (World.frozen?_of_block (a := ⟨bw, 0, none⟩) (ht2.block bw (Lib.lt_of_heap HSn.out.wr) (Ne.symm HSn.out.n1) (fun e => HSn.out.g1 e.symm))).trans f0))
        go_roundg 0
        case measure =>
          have hgk := HR.out.2.2.2.2.2.2.2
          omega
        case rel =>
          obtain ⟨hkm, hsz, hsd, hx, hsn, hcat, hbel, hgk⟩ := HR.out
          obtain ⟨e1, e2⟩ := hsn.direct hb2 hg2 (two_drew ht2) (Lib.byteCells_one _)
          have hdn : (Lib.byteCells s.data.toList).drop (k + m) = [] := List.drop_eq_nil_of_le (by rw [Lib.byteCells_length, ← Lib.size_eq, HN.out]; omega)
          have hdn' : s.data.toList.drop (k + m) = [] := List.drop_eq_nil_of_le (by rw [← Lib.size_eq, HN.out]; omega)
          refine ⟨k + m, 0, ByteArray.empty, _, gO2, _, [], rfl, rfl, rfl, by go_num, by omega, hide ⟨by omega, rfl, by rw [hdn']; rfl, Or.inr rfl, e1, ?_, hbel.trans e2, by simp⟩⟩
          rw [hdn, List.append_nil, List.append_nil, hsd, cells_drop]
          rw [List.append_nil] at hcat
          exact hcat
      · have hn0' : ((n : Int) == 0) = false := by simp; omega
        have hlb : bs'.length + n + m ≤ 140737488355328 := by
          have hcat := HR.out.2.2.2.2.2.1
          have := congrArg List.length hcat
          simp only [List.length_append, List.length_drop, Lib.byteCells_length, ← Lib.size_eq, HN.out, HC.out] at this
          have := HR.out.1
          omega
        by_cases hn4 : n < 4096
        · obtain ⟨X, hX, hc1, hc2, hfz, hend⟩ := HP.out hn4 (4096 - n) (by omega)
          have HE := Lib.hid hend
          clear hend
          have hi1 : (0 : Int) ≤ (n : Int) := by omega
          have hi2 : (n : Int) ≤ 4096 := by omega
          have hi3 : ¬ (4096 : Nat) = n := by omega
          have hcast : ((4096 - n : Nat) : Int) = 4096 - (n : Int) := by omega
          rw [hcast] at hX
          go_wp2_with (first | (go_at_call 27; refine (available_any bw bf n _ h1 h2 hl).mono ?_; rintro e w' ⟨rfl, nq, rfl⟩) | (go_at_call 28; refine (buffered_any bw n _ (by exact h2)).mono ?_; rintro e w' ⟨rfl, rfl⟩))
          go_region_held3 (fun w' => w'.cell? ⟨bw, 1, none⟩ = some (.slice (some ⟨bf, 0, none⟩) 4096 4096) ∧ w'.cell? ⟨bw, 2, none⟩ = some (.int .i64 n)) (go_keep) (fail)
          have htn : (4096 - (n : Int)).toNat = 4096 - n := by omega
          have e1 := (HE.out (nq + 1)).1
          rw [show ((n + (4096 - n) : Nat) : Int) = (n : Int) + (4096 - (n : Int)) from by omega] at e1
          have E1 := Lib.hid e1
          clear e1
          have hfl : bs'.length + (cs' ++ (Lib.byteCells s'.data.toList).take (4096 - n)).length ≤ 140737488355328 := by
            rw [List.length_append, HC.out, List.length_take, Lib.byteCells_length, ← Lib.size_eq, hsz]; omega
          go_wp2_with (go_at_call 23; refine (flush_any KP B bb bw bf gO' bs' (cs' ++ (Lib.byteCells s'.data.toList).take (4096 - n)) _ (by exact E1.out) hfl).mono ?_; rintro e w2 ⟨rfl, gO2, hs2, hb2⟩)
          all_goals
            go_roundg (2 * (m - (4096 - n)))
            case measure =>
              have hgk := HR.out.2.2.2.2.2.2.2
              rw [HC.out, if_neg hn0] at hgk
              omega
            case rel =>
              obtain ⟨hkm, hsz, hsd, hx, hsn, hcat, hbel, hgk⟩ := HR.out
              have e2 := (HE.out (nq + 1)).2
              rw [show ((n + (4096 - n) : Nat) : Int) = (n : Int) + (4096 - (n : Int)) from by omega] at e2
              refine ⟨k + (4096 - n), m - (4096 - n), _, _, gO2, _, [], rfl, rfl, rfl, int_eq (by omega), by omega, hide ⟨by omega, by rw [ByteArray.size_extract]; omega, by rw [ext_drop _ _ _ hsz, hsd, List.drop_drop], Or.inl rfl, hs2, ?_, hbel.trans (e2.trans hb2), by simp⟩⟩
              rw [List.append_nil, ← hcat, hsd, cells_drop, ← List.drop_drop, List.append_assoc, List.append_assoc, List.take_append_drop, List.append_assoc]
        · obtain rfl : n = 4096 := by omega
          have hcz : ∀ q, (Builtin.copy_ #[22, 9] 3 #[.slice (some ⟨bf, 0, none⟩) 0 0, .string s']).run Tryd.prog (wr.drewN q) = .ok (.int .i64 0) (wr.drewN q) := fun q => copy_none_string (wr.drewN q) _ s'
          have E1 := Lib.hid (fun q => (HSn.out.of_heap (w' := wr.drewN q) rfl).renum HC.out)
          have hfl : bs'.length + cs'.length ≤ 140737488355328 := by rw [HC.out]; omega
          have hm0 : (0 : Int) < (m : Int) := by omega
          clear hd hn0'
          have hq1 : (((4096 : Nat) : Int) == 0) = false := by decide
          have hmN : 0 < m := by omega
          have hmD : decide (0 < m) = true := by simp; omega
          go_wp2_with (first | (go_at_call 27; refine (available_any bw bf 4096 _ h1 h2 hl).mono ?_; rintro e w' ⟨rfl, nq, rfl⟩) | (go_at_call 28; refine (buffered_any bw 4096 _ (by exact h2)).mono ?_; rintro e w' ⟨rfl, rfl⟩))
          go_region_held3 (fun w' => w'.cell? ⟨bw, 1, none⟩ = some (.slice (some ⟨bf, 0, none⟩) 4096 4096) ∧ w'.cell? ⟨bw, 2, none⟩ = some (.int .i64 ((4096 : Nat) : Int))) (go_keep) (fail)
          go_wp2_with (go_at_call 23; refine (flush_any KP B bb bw bf gO' bs' cs' _ (by exact (E1.out (nq + 1)).1) hfl).mono ?_; rintro e w2 ⟨rfl, gO2, hs2, hb2⟩)
          all_goals
            go_roundg (2 * m)
            case measure =>
              have hgk := HR.out.2.2.2.2.2.2.2
              rw [HC.out] at hgk
              simp at hgk
              omega
            case rel =>
              obtain ⟨hkm, hsz, hsd, hx, hsn, hcat, hbel, hgk⟩ := HR.out
              have e2 := (E1.out (nq + 1)).2
              exact ⟨k, m, _, _, gO2, _, [], rfl, rfl, rfl, rfl, hk, hide ⟨hkm, by rw [ByteArray.size_extract]; omega, by rw [ext_drop _ _ _ hsz, List.drop_zero]; exact hsd, Or.inl rfl, hs2, by rw [List.append_nil]; exact hcat, hbel.trans ((below_drewN' e2).trans hb2), by simp⟩⟩

end Go.Proofs.Qxb6614942aDoor
