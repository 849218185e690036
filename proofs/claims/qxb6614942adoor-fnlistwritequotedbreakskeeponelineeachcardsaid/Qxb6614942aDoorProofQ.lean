/-
  THE CARD of FnListWriteQuotedBreaksKeepOneLineEach: the walk lifted to the row, the tied card closed by the builder.
-/
import Derived.Test.Qxb6614942aDoorLaid
import Derived.Test.Qxb6614942aDoorLaw3
import Derived.Test.Qxb6614942aDoorTie
import Derived.Test.Qxb6614942aDoorCards
import Derived.SevenTiedAt
namespace Go.Proofs.Qxb6614942aDoor
open Go.ChangeShapes Go.WideShapes Go.ChangeAt Go.RowKit Go.Lib

theorem trodAll_five {H : Type} {enc : TypeId × Value → H} {P : Program} {w : World} {base : Nat} {spare : Nat → Bool} {held : Bool} {t t' t'' t3 t4 : TypeId} {args : Array Value} {ds : List (DataW H)} {ps : List MemPlace} (h : DataW.TrodAll enc P w base spare held [t, t', t'', t3, t4] args.toList ds ps) :
    ∃ v v' v'' v3 v4 d d' d'' d3 d4 p p' p'' p3 p4, args = #[v, v', v'', v3, v4] ∧ ds = [d, d', d'', d3, d4] ∧ ps = p ++ p' ++ p'' ++ p3 ++ p4 ∧ DataW.Trod enc P w base spare held t v d p ∧ DataW.Trod enc P w base spare held t' v' d' p' ∧ DataW.Trod enc P w base spare held t'' v'' d'' p'' ∧ DataW.Trod enc P w base spare held t3 v3 d3 p3 ∧ DataW.Trod enc P w base spare held t4 v4 d4 p4 := by
  obtain ⟨v, vs, d, ds1, p, q, hargs, rfl, rfl, hd, hrest⟩ := trodAll_cons h
  obtain ⟨v', vs', d', ds2, p', q', rfl, rfl, rfl, hd', hrest'⟩ := trodAll_cons hrest
  obtain ⟨v'', vs'', d'', ds3, p'', q'', rfl, rfl, rfl, hd'', hrest''⟩ := trodAll_cons hrest'
  obtain ⟨v3, vs3, d3, ds4, p3, q3, rfl, rfl, rfl, hd3, hrest3⟩ := trodAll_cons hrest''
  obtain ⟨v4, vs4, d4, ds5, p4, q4, rfl, rfl, rfl, hd4, hrest4⟩ := trodAll_cons hrest3
  obtain ⟨rfl, rfl, rfl⟩ := trodAll_nil hrest4
  exact ⟨v, v', v'', v3, v4, d, d', d'', d3, d4, p, p', p'', p3, p4, by cases args; simp_all, rfl, by simp, hd, hd', hd'', hd3, hd4⟩

theorem trodAll_mk5 {H : Type} {enc : TypeId × Value → H} {P : Program} {w : World} {base : Nat} {spare : Nat → Bool} {held : Bool} {t t' t'' t3 t4 : TypeId} {v v' v'' v3 v4 : Value} {d d' d'' d3 d4 : DataW H} {p p' p'' p3 p4 : List MemPlace} (h : DataW.Trod enc P w base spare held t v d p) (h' : DataW.Trod enc P w base spare held t' v' d' p')
    (h'' : DataW.Trod enc P w base spare held t'' v'' d'' p'') (h3 : DataW.Trod enc P w base spare held t3 v3 d3 p3) (h4 : DataW.Trod enc P w base spare held t4 v4 d4 p4) : DataW.TrodAll enc P w base spare held [t, t', t'', t3, t4] [v, v', v'', v3, v4] [d, d', d'', d3, d4] (p ++ (p' ++ (p'' ++ (p3 ++ p4)))) := ⟨p, p' ++ (p'' ++ (p3 ++ p4)), h, trodAll_mk4 h' h'' h3 h4, rfl⟩

theorem witness_rowQ (os : Os) {H : Type} (enc : TypeId × Value → H) :
    (OpenSpec.ofChange Rows.fnListWriteQuotedBreaksKeepOneLineEachSpec).preRow enc Tryd.prog Tryd.f3 Rows.fnListWriteQuotedBreaksKeepOneLineEachRow.domain false Rows.fnListWriteQuotedBreaksKeepOneLineEachRow.laid ((laidWorld Tryd.prog os).forCall (fun _ _ => 0) ⟨#[], #[.int .u8 0, .bool false, .slice none 0 0, .slice none 0 0, .slice none 0 0], []⟩).memory #[.int .u8 0, .bool false, .slice none 0 0, .slice none 0 0, .slice none 0 0] := by
  have hw : (DataW.whole enc Tryd.prog ((laidWorld Tryd.prog os).forCall (fun _ _ => 0) ⟨#[], #[.int .u8 0, .bool false, .slice none 0 0, .slice none 0 0, .slice none 0 0], []⟩).memory Tryd.f3.params.toList (OpenSpec.ofChange Rows.fnListWriteQuotedBreaksKeepOneLineEachSpec).vars false #[Value.int .u8 0, .bool false, .slice none 0 0, .slice none 0 0, .slice none 0 0].toList 8).map (fun x => (x.1, x.2.1)) =
      some ([.lit (.int .u8 0), .lit (.bool false), .nil, .nil, .nil], []) := by kernel_rfl
  obtain ⟨⟨x1, x2, x3⟩, hx, hx1⟩ := Option.map_eq_some_iff.1 hw
  simp only [Prod.mk.injEq] at hx1
  obtain ⟨rfl, rfl⟩ := hx1
  exact OpenSpec.preRow_of_cond 8 hx (by kernel_rfl) (fun k hk => by cases hk) (by kernel_rfl) (laid_met os _)

theorem u8_at {n : Int} (h : (Lit.int .u8 n).wf = true) : n = ((UInt8.ofNat n.toNat).toNat : Int) := by
  have hr : 0 ≤ n ∧ n ≤ 255 := by simpa [Lit.wf, IntKind.min, IntKind.max, IntKind.signed, IntKind.bits] using h
  simp
  omega

set_option maxRecDepth 100000 in
set_option maxHeartbeats 2000000 in
theorem q_lifted (os : Os) (started : os.Started) (H : Type) (enc : TypeId × Value → H) (F : Stop.Interp) :
    ReturnsInHanded {} Tryd.checked os 3 .any ((OpenSpec.ofChange Rows.fnListWriteQuotedBreaksKeepOneLineEachSpec).preRow enc Tryd.prog Tryd.f3 Rows.fnListWriteQuotedBreaksKeepOneLineEachRow.domain false Rows.fnListWriteQuotedBreaksKeepOneLineEachRow.laid) (((OpenSpec.ofChange Rows.fnListWriteQuotedBreaksKeepOneLineEachSpec).at F).post enc Tryd.prog Tryd.f3 false true false false) := by
  refine returnsInHanded_of_row (C := Tryd.checked) (s := OpenSpec.ofChange Rows.fnListWriteQuotedBreaksKeepOneLineEachSpec) own started (by kernel_rfl) Tryd.func3
    (witness_row_atRef (enc := enc) (C := Tryd.checked) false (laidWorld Tryd.prog os) #[.int .u8 0, .bool false, .slice none 0 0, .slice none 0 0, .slice none 0 0] rfl (by kernel_rfl) (by kernel_rfl) (by kernel_rfl) (witness_rowQ os enc)) ?_
  intro W base args ds gs before hval0 hW _ _ _ hL _ _
  have hval : ∀ (j : Nat) t v, Tryd.f3.params[j]? = some t → args[j]? = some v → Value.okWide Tryd.prog W .any base t v := hval0
  have hW' := hW
  obtain ⟨p, q, hA0, hV, rfl, _, _⟩ := hW
  have hA : DataW.TrodAll enc Tryd.prog W 0 (fun _ => true) true Tryd.f3.params.toList args.toList ds p := hA0
  rw [Tryd.params3] at hA hval
  obtain ⟨v0, v1, v2, v3, v4, d0, d1, d2, d3, d4, p0, p1, p2, p3, p4, rfl, rfl, rfl, h0, h1, h2, h3, h4⟩ := trodAll_five hA
  obtain ⟨rfl, rfl⟩ := trodVars_none hV
  obtain ⟨n0, rfl, rfl, rfl, w0⟩ := open_int Tryd.underlying5 (hval 0 5 v0 rfl rfl) h0
  obtain ⟨b1, rfl, rfl, rfl⟩ := open_bool Tryd.underlying4 (hval 1 4 v1 rfl rfl) h1
  obtain ⟨x2, c2, l2, rfl, a2⟩ := at_of (hval 2 22 v2 rfl rfl) h2
  obtain ⟨x3, c3, l3, rfl, a3⟩ := at_of (hval 3 22 v3 rfl rfl) h3
  obtain ⟨x4, c4, l4, rfl, a4⟩ := at_of (hval 4 22 v4 rfl rfl) h4
  clear hA0 hval0
  simp only [List.append_nil] at hW'
  have hlt : ∀ x ∈ [] ++ [] ++ p2 ++ p3 ++ p4, x.block < W.heap.size := fun x hx => by simpa using hW'.lt x hx
  obtain ⟨hT, hU⟩ := tabs_of hL
  refine (law3 Lib.goPrintTabs (UInt8.ofNat n0.toNat) n0 (u8_at w0) b1 x2 x3 x4 l2.length l3.length l4.length c2 c3 c4 l2 l3 l4 W a2 a3 a4 rfl rfl rfl hT hU).mono ?_
  rintro e W' ⟨rfl, bel⟩
  have e1 : ((OpenSpec.ofChange Rows.fnListWriteQuotedBreaksKeepOneLineEachSpec).at F).fn H ([.lit (.int .u8 n0), .lit (.bool b1), d2, d3, d4] ++ []) = { results := [.lit (.bool true)], args := [.lit (.int .u8 n0), .lit (.bool b1), d2, d3, d4] } := rfl
  refine ⟨_, rfl, _, _, _, [], [] ++ ([] ++ (p2 ++ (p3 ++ p4))), [], hW', ?_, ?_, ?_, bel.frame _, fun h => by cases h⟩
  · rw [e1]; exact trodAll_mk1 (shut_bool Tryd.underlying4 true)
  · rw [e1]; exact trodAll_mk5 (shut_int Tryd.underlying5 w0) (shut_bool Tryd.underlying4 b1) (Below.trod laidOut (by kernel_rfl) (of_decide_eq_true (by kernel_rfl)) h2 bel (fun x hx => hlt x (by simp [hx]))) (Below.trod laidOut (by kernel_rfl) (of_decide_eq_true (by kernel_rfl)) h3 bel (fun x hx => hlt x (by simp [hx]))) (Below.trod laidOut (by kernel_rfl) (of_decide_eq_true (by kernel_rfl)) h4 bel (fun x hx => hlt x (by simp [hx])))
  · rw [e1]; rfl

theorem q_holds : Rows.FnListWriteQuotedBreaksKeepOneLineEachSaid :=
  OpenClaim.holds_of_cond 3 Tryd.f3 rfl rfl rfl rfl rfl rfl rfl ⟨rfl, rfl, rfl, rfl, rfl⟩ rfl rfl rfl rfl rfl (by kernel_rfl) Tryd.func3 (by kernel_rfl)
    (of_decide_eq_true (by kernel_rfl)) (by unfold Func.isWrapper; rw [if_neg (of_decide_eq_false (by kernel_rfl))]; exact ⟨rfl, rfl⟩)
    (fun os started H enc _ F0 => by rw [OpenClaim.pre_eq_preRow]; exact q_lifted os started H enc F0)

/-- THE STATEMENT. -/
theorem quoted_card_holds : Rows.FnListWriteQuotedBreaksKeepOneLineEachCardSaid :=
  Claim7.holds_tied_plain_at .later [] [.data, .called, .pinned, .pinned, .pinned, .pinned, .pinned, .pinned] true (true, "145b5b35012196b17ccf7d196464f7de5c5744eaf8da38d851599f38b5f95745") true
    q_holds (fun _ h => by cases h) (by kernel_rfl) (fun _ h => by cases h) fnListWriteQuotedBreaksKeepOneLineEach_row_tie rfl ⟨rfl, rfl⟩ (by kernel_rfl) rfl
    (fun f fn hf hfn => by
      obtain rfl : f = 3 := Option.some.inj ((show Tryd.prog.funcNamed Rows.fnListWriteQuotedBreaksKeepOneLineEachRow.func = some 3 by kernel_rfl).symm.trans hf) |>.symm
      obtain rfl : fn = Tryd.f3 := (Option.some.inj (Tryd.func3.symm.trans hfn)).symm
      exact ⟨by kernel_rfl, fun j t ht => by
        rw [Tryd.params3] at ht
        have h3 : t = 5 ∨ t = 4 ∨ t = 22 := by
          rcases j with _ | _ | _ | _ | _ | j
          · exact Or.inl (by simpa using ht.symm)
          · exact Or.inr (Or.inl (by simpa using ht.symm))
          · exact Or.inr (Or.inr (by simpa using ht.symm))
          · exact Or.inr (Or.inr (by simpa using ht.symm))
          · exact Or.inr (Or.inr (by simpa using ht.symm))
          · simp at ht
        rcases h3 with rfl | rfl | rfl
        · exact (show Tryd.prog.wantsStandIn 5 = false by kernel_rfl)
        · exact (show Tryd.prog.wantsStandIn 4 = false by kernel_rfl)
        · exact (show Tryd.prog.wantsStandIn 22 = false by kernel_rfl)⟩)
    (by kernel_rfl)

end Go.Proofs.Qxb6614942aDoor
