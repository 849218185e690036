/-
  THE CARD of FnLineSplitsStream: the walk lifted to the row, the tied card closed by the builder.
-/
import Derived.Test.Qxb6003622aDoorLaw
import Derived.Test.Qxb6003622aDoorTie
import Derived.Test.Qxb6003622aDoorCards
import Derived.SevenTiedAt
import Derived.Deep.DeepHandedRow
import Derived.Deep.DeepWitnessRowRef
import Derived.Lib.LaidIn
import Derived.Lib.LaidU8T
import Derived.PinnedBridge
import Derived.ProofKit
import Derived.Shelf.Vars
import Derived.Carry
namespace Go.Proofs.Qxb6003622aDoor
open Go.ChangeShapes Go.WideShapes Go.ChangeAt Go.RowKit Go.Lib

theorem own : ownKnob Tryd.prog.godebug = none := by kernel_rfl
theorem laidOut : laidOutB Tryd.prog = true := by kernel_rfl
theorem cells5 : Tryd.prog.cellsOf 5 = 1 := by kernel_rfl

/-- A block's cells laid anew. -/
def put (h : Array Obj) (g : Nat) (cs : Array Value) : Array Obj := h.modify g fun
  | .cells _ t frozen => .cells cs t frozen
  | o => o
def accCells : Array Value := ([128, 191, 160, 191, 128, 159, 144, 191, 128, 143, 0, 0, 0, 0, 0, 0, 0, 0, 0, 0, 0, 0, 0, 0, 0, 0, 0, 0, 0, 0, 0, 0].map (Value.int .u8)).toArray
/-- The start that is shown to be there: the two listed tables hold what the program's text lays. -/
def laidWorld (P : Program) (os : Os) : World :=
  { World.holding P os ⟨#[], #[], []⟩ with heap := put (put (World.holding P os ⟨#[], #[], []⟩).heap 1 (Go.Pinned.utf8FirstZ.map fun (n : Nat) => Value.int .u8 n).toArray) 2 accCells }

theorem laid_met (os : Os) (args : Array Value) : laidMet Tryd.prog Rows.fnLineSplitsStreamRow.laid ((laidWorld Tryd.prog os).forCall (fun _ _ => 0) ⟨#[], args, []⟩).memory :=
  (LaidIn.of_run (l := Rows.fnLineSplitsStreamRow.laid) [2, 1] 8 (by kernel_rfl) (by kernel_rfl) (by kernel_rfl) (by kernel_rfl)).met

theorem witness_row (os : Os) {H : Type} (enc : TypeId × Value → H) :
    (OpenSpec.ofChange Rows.fnLineSplitsStreamSpec).preRow enc Tryd.prog Tryd.f4 Rows.fnLineSplitsStreamRow.domain false Rows.fnLineSplitsStreamRow.laid ((laidWorld Tryd.prog os).forCall (fun _ _ => 0) ⟨#[], #[.slice none 0 0], []⟩).memory #[.slice none 0 0] := by
  have hw : (DataW.whole enc Tryd.prog ((laidWorld Tryd.prog os).forCall (fun _ _ => 0) ⟨#[], #[.slice none 0 0], []⟩).memory Tryd.f4.params.toList (OpenSpec.ofChange Rows.fnLineSplitsStreamSpec).vars false #[Value.slice none 0 0].toList 8).map (fun x => (x.1, x.2.1)) =
      some ([.nil], []) := by kernel_rfl
  obtain ⟨⟨x1, x2, x3⟩, hx, hx1⟩ := Option.map_eq_some_iff.1 hw
  simp only [Prod.mk.injEq] at hx1
  obtain ⟨rfl, rfl⟩ := hx1
  exact OpenSpec.preRow_of_cond 8 hx (by kernel_rfl) (fun k hk => by cases hk) (by kernel_rfl) (laid_met os _)

def ren8 : Go.Shelf.Ren := ⟨fun n => n, fun | 119 => 55 | 138 => 57 | 139 => 58 | n => n, fun | 3 => 1 | 4 => 2 | n => n⟩

theorem accept_eq : Rows.laid_unicode_utf8_acceptRanges (H := Unit) = acceptData := by kernel_rfl

/-- The two tables, off 'laid'. -/
theorem tabs_of {W : World} (hL : laidMet Tryd.prog Rows.fnLineSplitsStreamRow.laid W) : Lib.Utf8Tabs 1 2 W := by
  have r0 := Lib.laidMet.reads hL (.head _)
  have r1 := Lib.laidMet.reads hL (.tail _ (.head _))
  unfold Rows.laid_unicode_utf8_first at r1
  rw [accept_eq] at r0
  rw [Pinned.utf8First_eq] at r1
  exact utf8Tabs_of_readsT (ρ := ren8) ⟨Tryd.underlying5, Tryd.underlying55, Tryd.underlying57, Tryd.underlying58⟩ ⟨by kernel_rfl, by kernel_rfl, by kernel_rfl, by kernel_rfl, by kernel_rfl, by kernel_rfl, by kernel_rfl⟩ r1 r0

/-- The cell of bytealg.MaxLen holds some number. -/
theorem max_of {W : World} (hsh : W.ShapedOpen Tryd.prog) : ∃ m, W.cell? ⟨0, 0, none⟩ = some (.int .i64 m) :=
  cell_of_shapedOpen_int (P := Tryd.prog) (g := 0) (t := 3) (zero := #[.int .i64 0]) hsh (of_decide_eq_true (by kernel_rfl)) (by kernel_rfl) rfl (by kernel_rfl) (by kernel_rfl) Tryd.underlying3

set_option maxRecDepth 100000 in
/-- A slice of bytes that comes in. -/
theorem at_of {H : Type} {enc : TypeId × Value → H} {W : World} {base : Nat} {v : Value} {d : DataW H} {ps : List MemPlace} (hval : Value.okWide Tryd.prog W .any base 22 v) (h : DataW.Trod enc Tryd.prog W 0 (fun _ => true) true 22 v d ps) :
    v = .slice none 0 0 ∨ ∃ (b o c : Nat) (l : List UInt8), v = .slice (some ⟨b, o, none⟩) l.length c ∧ Row W b o l := by
  obtain ⟨a1, len, cap, rfl⟩ := okWide_slice Tryd.underlying22 hval
  obtain ⟨fuel, hf⟩ := h
  rcases open_ints Tryd.underlying22 Tryd.underlying5 cells5 hf with ⟨hcs, _⟩ | ⟨a, len', cap', zs, hcs, _, hl, hm, hz, _, hcell, hwz⟩
  · simp [Value.cells] at hcs
    obtain ⟨rfl, rfl, rfl⟩ := hcs
    exact Or.inl rfl
  · simp [Value.cells] at hcs
    obtain ⟨rfl, rfl, rfl⟩ := hcs
    simp only [if_true] at hz
    simp only [Value.okWide, Tryd.underlying22, Cell.okWide, Cell.ok, World.has] at hval
    obtain ⟨_, _, _, hsp, row, cells, hsh, _⟩ := hval
    obtain ⟨ab, ao, asp⟩ := a
    simp only at hsp
    subst hsp
    have hlen : ((zs.take len).map fun n => UInt8.ofNat n.toNat).length = len := by simp; omega
    refine Or.inr ⟨ab, ao, cap, (zs.take len).map fun n => UInt8.ofNat n.toNat, by rw [hlen], fun j x hj => ?_⟩
    have hjl : j < len := by have := (List.getElem?_eq_some_iff.1 hj).1; rw [hlen] at this; exact this
    rw [List.getElem?_map, List.getElem?_take] at hj
    have hjz : j < zs.length := by omega
    rw [if_pos hjl, List.getElem?_eq_getElem hjz] at hj
    simp only [Option.map_some, Option.some.injEq] at hj
    have hc := hcell j hjz
    have hadd : (⟨ab, ao, none⟩ : Addr).add j = ⟨ab, ao + j, none⟩ := by simp [Addr.add]
    rw [hadd] at hc
    rw [hc]
    have hw := hwz zs[j] (List.getElem_mem hjz)
    have hg : zs.getD j 0 = zs[j] := by simp [List.getD, hjz]
    rw [hg, ← hj]
    have hr : 0 ≤ zs[j] ∧ zs[j] ≤ 255 := by
      simpa [Lit.wf, IntKind.min, IntKind.max, IntKind.signed, IntKind.bits] using hw
    congr 2
    simp
    omega

/-- The law, whatever the slice. -/
theorem law_all (v : Value) (m : Int) (w : World) (hT : Lib.Utf8Tabs 1 2 w) (hm : w.cell? ⟨0, 0, none⟩ = some (.int .i64 m)) (hv : v = .slice none 0 0 ∨ ∃ (b o c : Nat) (l : List UInt8), v = .slice (some ⟨b, o, none⟩) l.length c ∧ Row w b o l) :
    Calls Tryd.prog 4 #[v] w fun e w' => e = .returned (.bool true) ∧ Below w.heap.size w w' := by
  rcases hv with rfl | ⟨b, o, c, l, rfl, hr⟩
  · exact law_nil w
  · by_cases hn : l.length ≤ 1048576
    · exact law_row b o c l.length l m w hT hm rfl hn hr
    · exact law_big _ l.length c w hn

set_option maxRecDepth 100000 in
set_option maxHeartbeats 2000000 in
theorem s_lifted (os : Os) (started : os.Started) (H : Type) (enc : TypeId × Value → H) (F : Stop.Interp) :
    ReturnsInHanded {} Tryd.checked os 4 .any ((OpenSpec.ofChange Rows.fnLineSplitsStreamSpec).preRow enc Tryd.prog Tryd.f4 Rows.fnLineSplitsStreamRow.domain false Rows.fnLineSplitsStreamRow.laid) (((OpenSpec.ofChange Rows.fnLineSplitsStreamSpec).at F).post enc Tryd.prog Tryd.f4 false true false false) := by
  refine returnsInHanded_of_row (C := Tryd.checked) (s := OpenSpec.ofChange Rows.fnLineSplitsStreamSpec) own started (by kernel_rfl) Tryd.func4
    (witness_row_atRef (enc := enc) (C := Tryd.checked) false (laidWorld Tryd.prog os) #[.slice none 0 0] rfl (by kernel_rfl) (by kernel_rfl) (by kernel_rfl) (witness_row os enc)) ?_
  intro W base args ds gs before hval0 hW _ _ _ hL hsh _
  have hval : ∀ (j : Nat) t v, Tryd.f4.params[j]? = some t → args[j]? = some v → Value.okWide Tryd.prog W .any base t v := hval0
  have hW' := hW
  obtain ⟨p, q, hA0, hV, rfl, _, _⟩ := hW
  have hA : DataW.TrodAll enc Tryd.prog W 0 (fun _ => true) true Tryd.f4.params.toList args.toList ds p := hA0
  rw [Tryd.params4] at hA hval
  obtain ⟨v0, d0, rfl, rfl, h0⟩ := trodAll_one hA
  obtain ⟨rfl, rfl⟩ := trodVars_none hV
  clear hA0 hval0
  simp only [List.append_nil] at hW'
  have hlt : ∀ x ∈ p, x.block < W.heap.size := fun x hx => by simpa using hW'.lt x (by simpa using hx)
  obtain ⟨m, hm⟩ := max_of hsh
  refine (law_all v0 m W (tabs_of hL) hm (at_of (hval 0 22 v0 rfl rfl) h0)).mono ?_
  rintro e W' ⟨rfl, bel⟩
  have e1 : ((OpenSpec.ofChange Rows.fnLineSplitsStreamSpec).at F).fn H ([d0] ++ []) = { results := [.lit (.bool true)], args := [d0] } := rfl
  refine ⟨_, rfl, _, _, _, [], p, [], hW', ?_, ?_, ?_, bel.frame _, fun h => by cases h⟩
  · rw [e1]; exact trodAll_mk1 (shut_bool Tryd.underlying4 true)
  · rw [e1]; exact trodAll_mk1 (Below.trod laidOut (by kernel_rfl) (of_decide_eq_true (by kernel_rfl)) h0 bel hlt)
  · rw [e1]; rfl

theorem s_holds : Rows.FnLineSplitsStreamSaid :=
  OpenClaim.holds_of_cond 4 Tryd.f4 rfl rfl rfl rfl rfl rfl rfl ⟨rfl, rfl, rfl, rfl, rfl⟩ rfl rfl rfl rfl rfl (by kernel_rfl) Tryd.func4 (by kernel_rfl)
    (of_decide_eq_true (by kernel_rfl)) (by unfold Func.isWrapper; rw [if_neg (of_decide_eq_false (by kernel_rfl))]; exact ⟨rfl, rfl⟩)
    (fun os started H enc _ F0 => by rw [OpenClaim.pre_eq_preRow]; exact s_lifted os started H enc F0)

/-- THE STATEMENT. -/
theorem splits_card_holds : Rows.FnLineSplitsStreamCardSaid :=
  Claim7.holds_tied_plain_at .later [] [.data, .pinned] true (true, "0ee7efb16a684a037751653fa71f24b48d98290c7957647459ade15fb40ff10c") false
    s_holds (fun _ h => by cases h) (by kernel_rfl) (fun _ h => by cases h) fnLineSplitsStream_row_tie rfl ⟨rfl, rfl⟩ (by kernel_rfl) rfl
    (fun f fn hf hfn => by
      obtain rfl : f = 4 := Option.some.inj ((show Tryd.prog.funcNamed Rows.fnLineSplitsStreamRow.func = some 4 by kernel_rfl).symm.trans hf) |>.symm
      obtain rfl : fn = Tryd.f4 := (Option.some.inj (Tryd.func4.symm.trans hfn)).symm
      exact ⟨by kernel_rfl, fun j t ht => by
        rw [Tryd.params4] at ht
        have h3 : t = 22 := by
          rcases j with _ | j
          · exact (by simpa using ht.symm)
          · simp at ht
        subst h3
        exact (show Tryd.prog.wantsStandIn 22 = false by kernel_rfl)⟩)
    (by kernel_rfl)

end Go.Proofs.Qxb6003622aDoor
