/-
  DERIVED. GIVEN WITH THE SEED: THE CARDS: each row of Qxb6615666aFmtRows.lean that lists a variable, with what it lists TIED to the program's text (the seventh form; the later family's looks); each row that meets fmt, with fmt's text TOLD by the authors' own Lean function (tested against real Go, not proved from fmt's source: count such statements apart). THE CARD IS WHAT COUNTS. Prove the row's statement (the work); the ties are given (Qxb6615666aFmtTie.lean); close each card by the builder's one call (the guide's Derived/Test/ToyasCard.lean, 'card_holds'). Laid BY PROGRAM, IN A SANDBOX (cutbox-door.mjs). By AI agents, Wed Nov 11 2026. No macro, syntax, notation, axiom, sorry.
-/
import Derived.Test.Qxb6615666aFmtRows
import GoSem.ClaimSeven
namespace Go.Proofs.Qxb6615666aFmt
namespace Rows

/-- THE TOLD AND TIED CARD OF 'zzlaws_preserves_b1.FnColonAcceptsExactlyAColon'. -/
def fnColonAcceptsExactlyAColonCard : Claim7 := { stood := { row := fnColonAcceptsExactlyAColonRow, standIns := [], harness := (true, "6aeec83dbb71df72d43e6916c6d22ae335a4b5ea30fef913051b85f2c85f6732"), looks := false }, told := true, laidByText := true, laidKinds := [.data, .pinned], laidTests := true, laidLooks := .later, goes := false }
def FnColonAcceptsExactlyAColonToldSaid : Prop := Claim7.holds Tryf.pinned (.plain (OpenSpec.ofChange fnColonAcceptsExactlyAColonSpec)) fnColonAcceptsExactlyAColonCard
/-- ITS FALSE NEIGHBOUR. Refute it at one input. -/
def FnColonAcceptsExactlyAColonToldWrongFalsely : Prop := Claim7.holds Tryf.pinned (.plain (OpenSpec.ofChange fnColonAcceptsExactlyAColonWrong)) fnColonAcceptsExactlyAColonCard
end Rows
end Go.Proofs.Qxb6615666aFmt
