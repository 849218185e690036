/-
  DERIVED. GIVEN WITH THE SEED: THE CARDS: each row of Qxb6614566aFmtRows.lean that lists a variable, with what it lists TIED to the program's text (the seventh form; the later family's looks); each row that meets fmt, with fmt's text TOLD by the authors' own Lean function (tested against real Go, not proved from fmt's source: count such statements apart). THE CARD IS WHAT COUNTS. Prove the row's statement (the work); the ties are given (Qxb6614566aFmtTie.lean); close each card by the builder's one call (the guide's Derived/Test/ToyasCard.lean, 'card_holds'). Laid BY PROGRAM, IN A SANDBOX (cutbox-door.mjs). By AI agents, Wed Nov 11 2026. No macro, syntax, notation, axiom, sorry.
-/
import Derived.Test.Qxb6614566aFmtRows
import GoSem.ClaimSeven
namespace Go.Proofs.Qxb6614566aFmt
namespace Rows

/-- THE TOLD AND TIED CARD OF 'zzlaws_registry_b1.FnPackageNameIsMadeOfIDBytes'. -/
def fnPackageNameIsMadeOfIDBytesCard : Claim7 := { stood := { row := fnPackageNameIsMadeOfIDBytesRow, standIns := [], harness := (true, "863e02ce6a4cb6adb52efb84a7cd470bf620d1ae6047bdcec7c6e05f5d0114b8"), looks := false }, told := true, laidByText := true, laidKinds := [.data, .pinned], laidTests := true, laidLooks := .later, goes := false }
def FnPackageNameIsMadeOfIDBytesToldSaid : Prop := Claim7.holds Tryf.pinned (.plain (OpenSpec.ofChange fnPackageNameIsMadeOfIDBytesSpec)) fnPackageNameIsMadeOfIDBytesCard
/-- ITS FALSE NEIGHBOUR. Refute it at one input. -/
def FnPackageNameIsMadeOfIDBytesToldWrongFalsely : Prop := Claim7.holds Tryf.pinned (.plain (OpenSpec.ofChange fnPackageNameIsMadeOfIDBytesWrong)) fnPackageNameIsMadeOfIDBytesCard
end Rows
end Go.Proofs.Qxb6614566aFmt
