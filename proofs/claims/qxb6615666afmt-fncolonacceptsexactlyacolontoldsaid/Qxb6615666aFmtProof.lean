/-
  THE CARD: the law's walk lifted to the row that tells fmt's texts, and the told and tied card closed by the builder.
-/
import Derived.Test.Qxb6615666aFmtLaw
import Derived.Test.Qxb6615666aFmtWrap
import Derived.Test.Qxb6615666aFmtTie
import Derived.Test.Qxb6615666aFmtCards
import Derived.ProofKit
import Derived.Stop.JoinedAt
import Derived.Stop.JoinedTold
import Derived.SevenTiedAt
import Derived.Deep.DeepWitnessRef
import Derived.Lib.LaidIn
import Derived.Lib.LaidU8T
import Derived.PinnedBridge
import Derived.Carry
namespace Go.Proofs.Qxb6615666aFmt
open Go.ChangeShapes Go.WideShapes Go.ChangeAt Go.RowKit Go.Kit Go.Lib
open Go.Extern.Stop Go.Stop Go.Extern

theorem own : ownKnob Tryf.prog.godebug = none := by kernel_rfl
theorem laidOut : laidOutB Tryf.pinned.checked.prog = true := by kernel_rfl
theorem laidOut' : laidOutB Tryf.prog = true := by kernel_rfl
theorem cells5 : Tryf.prog.cellsOf 5 = 1 := by kernel_rfl
theorem stopsAre : Tryf.pinned.checked.prog.stops = Rows.fnColonAcceptsExactlyAColonRow.stops := by kernel_rfl
theorem stopKnobsAre : Tryf.pinned.checked.prog.stopKnobs = [] := by kernel_rfl
theorem quiet (os : Os) : Stop.quiet Tryf.pinned.checked.prog os := by
  intro k hk
  rw [stopKnobsAre] at hk
  cases hk

/-- A block's cells laid anew. -/
def put (h : Array Obj) (g : Nat) (cs : Array Value) : Array Obj := h.modify g fun
  | .cells _ t frozen => .cells cs t frozen
  | o => o
def accCells : Array Value := ([128, 191, 160, 191, 128, 159, 144, 191, 128, 143, 0, 0, 0, 0, 0, 0, 0, 0, 0, 0, 0, 0, 0, 0, 0, 0, 0, 0, 0, 0, 0, 0].map (Value.int .u8)).toArray
/-- The start that is shown to be there: the two listed tables hold what the program's text lays. -/
def laidWorld (P : Program) (os : Os) : World :=
  { World.holding P os ⟨#[], #[], []⟩ with heap := put (put (World.holding P os ⟨#[], #[], []⟩).heap 0 (Go.Pinned.utf8FirstZ.map fun (n : Nat) => Value.int .u8 n).toArray) 1 accCells }

theorem laid_met (os : Os) (args : Array Value) : laidMet Tryf.prog Rows.fnColonAcceptsExactlyAColonRow.laid ((laidWorld Tryf.prog os).forCall (fun _ _ => 0) ⟨#[], args, []⟩).memory :=
  (LaidIn.of_run (l := Rows.fnColonAcceptsExactlyAColonRow.laid) [1, 0] 8 (by kernel_rfl) (by kernel_rfl) (by kernel_rfl) (by kernel_rfl)).met

theorem witness_row (os : Os) {H : Type} (enc : TypeId × Value → H) :
    (OpenSpec.ofChange Rows.fnColonAcceptsExactlyAColonSpec).preRow enc Tryf.prog Tryf.f3 [] false Rows.fnColonAcceptsExactlyAColonRow.laid ((laidWorld Tryf.prog os).forCall (fun _ _ => 0) ⟨#[], #[.slice none 0 0, .int .i64 0], []⟩).memory #[.slice none 0 0, .int .i64 0] := by
  have hw : (DataW.whole enc Tryf.prog ((laidWorld Tryf.prog os).forCall (fun _ _ => 0) ⟨#[], #[.slice none 0 0, .int .i64 0], []⟩).memory Tryf.f3.params.toList (OpenSpec.ofChange Rows.fnColonAcceptsExactlyAColonSpec).vars false #[Value.slice none 0 0, .int .i64 0].toList 8).map (fun x => (x.1, x.2.1)) =
      some ([.nil, .lit (.int .i64 0)], []) := by kernel_rfl
  obtain ⟨⟨x1, x2, x3⟩, hx, hx1⟩ := Option.map_eq_some_iff.1 hw
  simp only [Prod.mk.injEq] at hx1
  obtain ⟨rfl, rfl⟩ := hx1
  exact OpenSpec.preRow_of_cond 8 hx (by kernel_rfl) (fun k hk => by cases hk) (by kernel_rfl) (laid_met os _)

def ren8 : Go.Shelf.Ren := ⟨fun n => n, fun | 119 => 84 | 138 => 87 | 139 => 88 | n => n, fun | 3 => 0 | 4 => 1 | n => n⟩

theorem accept_eq : Rows.laid_unicode_utf8_acceptRanges (H := Unit) = acceptData := by kernel_rfl

/-- The two tables, off 'laid'. -/
theorem tabs_of {W : World} (hL : laidMet Tryf.prog Rows.fnColonAcceptsExactlyAColonRow.laid W) : Lib.Utf8Tabs 0 1 W := by
  have r0 := Lib.laidMet.reads hL (.head _)
  have r1 := Lib.laidMet.reads hL (.tail _ (.head _))
  unfold Rows.laid_unicode_utf8_first at r1
  rw [accept_eq] at r0
  rw [Pinned.utf8First_eq] at r1
  exact utf8Tabs_of_readsT (ρ := ren8) ⟨Tryf.underlying5, Tryf.underlying84, Tryf.underlying87, Tryf.underlying88⟩ ⟨by kernel_rfl, by kernel_rfl, by kernel_rfl, by kernel_rfl, by kernel_rfl, by kernel_rfl, by kernel_rfl⟩ r1 r0

set_option maxRecDepth 100000 in
/-- A slice of bytes that comes in. -/
theorem at_of {H : Type} {enc : TypeId × Value → H} {W : World} {base : Nat} {v : Value} {d : DataW H} {ps : List MemPlace} (hval : Value.okWide Tryf.prog W .any base 22 v) (h : DataW.Trod enc Tryf.prog W 0 (fun _ => true) true 22 v d ps) :
    ∃ (x : Option Addr) (c : Nat) (l : List UInt8), v = .slice x l.length c ∧ (l.length = 0 ∨ ∃ b o, x = some ⟨b, o, none⟩ ∧ Row W b o l) := by
  obtain ⟨a1, len, cap, rfl⟩ := okWide_slice Tryf.underlying22 hval
  obtain ⟨fuel, hf⟩ := h
  rcases open_ints Tryf.underlying22 Tryf.underlying5 cells5 hf with ⟨hcs, _⟩ | ⟨a, len', cap', zs, hcs, _, hl, hm, hz, _, hcell, hwz⟩
  · simp [Value.cells] at hcs
    obtain ⟨rfl, rfl, rfl⟩ := hcs
    exact ⟨none, 0, [], rfl, Or.inl rfl⟩
  · simp [Value.cells] at hcs
    obtain ⟨rfl, rfl, rfl⟩ := hcs
    simp only [if_true] at hz
    simp only [Value.okWide, Tryf.underlying22, Cell.okWide, Cell.ok, World.has] at hval
    obtain ⟨_, _, _, hsp, row, cells, hsh, _⟩ := hval
    obtain ⟨ab, ao, asp⟩ := a
    simp only at hsp
    subst hsp
    have hlen : ((zs.take len).map fun n => UInt8.ofNat n.toNat).length = len := by simp; omega
    refine ⟨_, cap, (zs.take len).map fun n => UInt8.ofNat n.toNat, by rw [hlen], Or.inr ⟨ab, ao, rfl, fun j x hj => ?_⟩⟩
    have hjl : j < len := by have := (List.getElem?_eq_some_iff.1 hj).1; rw [hlen] at this; exact this
    rw [List.getElem?_map, List.getElem?_take] at hj
    have hjz : j < zs.length := by omega
    rw [if_pos hjl, List.getElem?_eq_getElem hjz] at hj
    simp only [Option.map_some, Option.some.injEq] at hj
    have hc := hcell j hjz
    have hadd : (⟨ab, ao, none⟩ : Addr).add j = ⟨ab, ao + j, none⟩ := by simp [Addr.add]
    rw [hadd] at hc
    rw [hc]
    have hw := hwz zs[j] (List.getElem_mem hjz)
    have hg : zs.getD j 0 = zs[j] := by simp [List.getD, hjz]
    rw [hg, ← hj]
    have hr : 0 ≤ zs[j] ∧ zs[j] ≤ 255 := by
      simpa [Lit.wf, IntKind.min, IntKind.max, IntKind.signed, IntKind.bits] using hw
    congr 2
    simp
    omega

set_option maxRecDepth 100000 in
set_option maxHeartbeats 1000000 in
theorem t_lifted (os : Os) (started : os.Started) (H : Type) (enc : TypeId × Value → H) :
    ReturnsInTold none {} Tryf.checked os 3 .any Input.okWide ((OpenSpec.ofChange Rows.fnColonAcceptsExactlyAColonSpec).preRow enc Tryf.prog Tryf.f3 [] false Rows.fnColonAcceptsExactlyAColonRow.laid)
      (fun F => ((OpenSpec.ofChange Rows.fnColonAcceptsExactlyAColonSpec).at F).post enc Tryf.prog Tryf.f3 false true false false) (aloneAtReturn Tryf.prog) nothingAlways := by
  refine returnsInTold_shaped (C := Tryf.checked) (s := OpenSpec.ofChange Rows.fnColonAcceptsExactlyAColonSpec) (by kernel_rfl) own started (by kernel_rfl) Tryf.func3
    (OpenSpec.witness_stopped_atRef (enc := enc) (C := Tryf.checked) false (laidWorld Tryf.prog os) #[.slice none 0 0, .int .i64 0] rfl (by kernel_rfl) (by kernel_rfl) (by kernel_rfl) (witness_row os enc)) ?_
  intro F W base args ds gs before hsh hF hval0 hW _ hL
  have hval : ∀ (j : Nat) t v, Tryf.f3.params[j]? = some t → args[j]? = some v → Value.okWide Tryf.prog W .any base t v := hval0
  have hW' := hW
  obtain ⟨p, q, hA0, hV, rfl, _, _⟩ := hW
  have hA : DataW.TrodAll enc Tryf.prog W 0 (fun _ => true) true Tryf.f3.params.toList args.toList ds p := hA0
  rw [Tryf.params3] at hA hval
  obtain ⟨v0, v1, d0, d1, p0, p1, rfl, rfl, rfl, h0, h1⟩ := trodAll_two hA
  obtain ⟨rfl, rfl⟩ := trodVars_none hV
  obtain ⟨x0, c0, l0, rfl, a0⟩ := at_of (hval 0 22 v0 rfl rfl) h0
  obtain ⟨n1, rfl, rfl, rfl, w1⟩ := open_int Tryf.underlying3 (hval 1 3 v1 rfl rfl) h1
  clear hA0 hval0
  simp only [List.append_nil] at hW'
  have hlt : ∀ x ∈ p0, x.block < W.heap.size := fun x hx => by simpa using hW'.lt x (by simpa using hx)
  refine (law F.told x0 c0 l0.length n1 l0 W hF (tabs_of hL) rfl a0).mono ?_
  rintro e W' ⟨rfl, bel⟩
  have e1 : ((OpenSpec.ofChange Rows.fnColonAcceptsExactlyAColonSpec).at F.told).fn H ([d0, .lit (.int .i64 n1)] ++ []) = { results := [.lit (.bool true)], args := [d0, .lit (.int .i64 n1)] } := rfl
  refine ⟨_, rfl, _, _, _, [], p0 ++ [], [], hW', ?_, ?_, ?_, bel.frame _, fun h => by cases h⟩
  · rw [e1]; exact trodAll_mk1 (shut_bool Tryf.underlying4 true)
  · rw [e1]; exact trodAll_mk2 (Below.trod laidOut' (by kernel_rfl) (of_decide_eq_true (by kernel_rfl)) h0 bel hlt) (shut_int Tryf.underlying3 w1)
  · rw [e1]; rfl

/-- THE STATEMENT. -/
theorem told_holds : Rows.FnColonAcceptsExactlyAColonToldSaid :=
  Claim7.holds_of_told_tied_any_at .later 3 Tryf.f3 _ [] [] _ _ _ _ _ (by kernel_rfl) rfl rfl rfl laidOut (by kernel_rfl) rfl ⟨rfl, rfl, rfl, rfl, rfl, rfl, rfl⟩ rfl rfl (by kernel_rfl) (by kernel_rfl) Tryf.func3 (by kernel_rfl)
    (of_decide_eq_true (by kernel_rfl)) (by unfold Func.isWrapper; rw [if_neg (of_decide_eq_false (by kernel_rfl))]; exact ⟨rfl, rfl⟩) stopsAre.symm rfl stopKnobsAre.symm (by kernel_rfl)
    (by kernel_rfl) (by kernel_rfl) (by kernel_rfl) (by kernel_rfl) (by kernel_rfl) (by kernel_rfl) (by kernel_rfl) (by kernel_rfl) (by kernel_rfl) rfl (by kernel_rfl) rfl rfl
    rfl rfl
    rfl (by kernel_rfl) (by kernel_rfl) (by kernel_rfl) (by decide) (by kernel_rfl) fnColonAcceptsExactlyAColon_row_tie
    (OpenClaim.moreEntering_of (by kernel_rfl) (by kernel_rfl) (by kernel_rfl) (by kernel_rfl) (by kernel_rfl) (by kernel_rfl) (by kernel_rfl) (by kernel_rfl) (by kernel_rfl) (by kernel_rfl))
    ⟨_, WideRow.started_initial, quiet _⟩
    (fun os started _ H enc _ => t_lifted os started H enc)

end Go.Proofs.Qxb6615666aFmt
